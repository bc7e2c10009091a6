import JvmDerived
import JvmDerived.Pilot.@@N@@Statement
import JvmDerived.Pilot.@@N@@Code
set_option linter.unusedVariables false
set_option linter.unusedSimpArgs false
namespace Jvm.RoadKit
open Sem ClassFile Op Lib Jvm.Stand Jvm.Free Jvm.LawKit
section New
variable {p : Program} {l : Launch} {e : Env} {R : Room} {s : State} {m : MethodId} {args : Array Value} {below : List Frame} {meth : Method} {c : Code} {T : State} {locs : List Loc} {cells slots : Nat}
theorem retI (X : Stand p l e R s m args below meth c T locs cells slots) (hx : p.tables.exec = Jvm.exec) {pc : Nat} {Ls : Array Slot} {z : Int32} {rest : List Value} (hret : meth.sig.returnType = some .int) (hd : decode c.code pc = .ok (.ireturn, 1)) {fs : List Frame}
    (hl : ∀ (f : JFrame) (acts : List Action), f.method = m → f.locked = none → f.entered = [] → (doReturn e (T.setTop f) acts (some (.int z))).1 = T.setFrames fs) : Steps p.tables e below (T.setTop (mkF m pc Ls (.int z :: rest))) (T.setFrames fs) := by
  have hm' : T.vm.method? m = some meth := X.method'
  have hn : narrow .int (.int z) = .int z := rfl
  show Steps p.tables e below (T.setTop { method := m, pc := pc, locals := Ls, stack := _ :: rest, locked := none }) _
  jvm_step X.here [X.here.top, hx, hd, hm', hret, hn]
  first | (intro acts; rw [hl _ acts rfl rfl rfl]) | rw [hl _ _ rfl rfl rfl]
  exact Steps.refl _
end New
end Jvm.RoadKit
namespace Jvm.RoadKit
open Sem ClassFile Op Lib Jvm.Stand Jvm.Free Jvm.LawKit
section Own
variable {p : Program} {l : Launch} {e : Env} {R : Room} {s : State} {m : MethodId} {args : Array Value} {below : List Frame} {meth : Method} {c : Code} {T : State} {locs : List Loc} {cells slots : Nat} {Z : State} {h h' : Heap}
theorem Sta_keep {C n d : String} {w : Value} {ws : List Addr} (F : Sta Z h C n d w) (K : Keep h h' ws) (q : ∀ x ∈ ws, ∀ cell : Cell, h[x]? = some cell → cell.vm.isStatics = false) : Sta Z h' C n d w := by
  obtain ⟨cf, i, k, f, st, cell, h1, h2, h3, h4, h5, h6, h7⟩ := F
  exact ⟨cf, i, k, f, st, cell, h1, h2, h3, h4, K.2.1 st cell h5 (fun z => by rw [q st z cell h5] at h6; cases h6), h6, h7⟩
theorem own_bits (X : Stand p l e R s m args below meth c T locs cells slots) (hx : p.tables.exec = Jvm.exec) (hZ : Z.Warmed39 s.vm) {a0 : Array Value} {own : String} {index : Nat} (hown : s.vm.findClass own = some m.cls)
    (w1 : (Cond.methodLink own index Jvm.Free.NT.doubleBitsN).before a0 Z = true) (w2 : (Cond.static Jvm.Free.NT.doubleBitsN).before a0 Z = true) (w3 : (Cond.initialized "java/lang/Double").before a0 Z = true) (w4 : (Cond.native Jvm.Free.NT.doubleBitsN).before a0 Z = true)
    (eT : T.heap = h) {g : JFrame} (hg : g.method = m) (hsize : g.locals.size = c.maxLocals) {b : UInt64} {rest : List Value} (hst : g.stack = .double b :: rest) {W : Nat} (hW : 2 * g.monitorRoom + (rest.map fun v => v.category).sum ≤ W)
    (hd : decode c.code g.pc = .ok (.invokestatic index, 3)) (hf : 1 ≤ R.frames) (hlo : W + 15 ≤ R.locals) :
    ∃ T', Stand p l e R s m args below meth c T' locs cells slots ∧ T'.heap = h ∧ ∀ target, Steps p.tables e below (T'.setTop { g with pc := g.pc + 3, stack := .long b.toInt64 :: rest }) target → Steps p.tables e below (T.setTop g) target := by
  have c4 : (Cond.native Jvm.Free.NT.doubleBitsN).before args s = true := mvT hZ w4
  obtain ⟨mk, methM, hnamed, hmethM, -, -, -, hsigM⟩ := Cond.native_spec c4
  obtain ⟨v, vm1, B, hW1, X', ⟨hB, hv1⟩, st⟩ := Stand.staticBack (args := args) X hx hown (mvT hZ w1) (mvT hZ w2) (mvT hZ w3) hnamed hmethM hsigM (by decide) (Jvm.Free.NT.DoubleBits.pays (W := W) c4 (mvT hZ w2) hf hlo) hg hsize (Steps.refl _) (argsL := [.double b]) (rest := rest) (fun sig hs => by rw [show parseMethodDescriptor Jvm.Free.NT.doubleBitsN.desc = some ⟨[.double], some .long⟩ by decide +kernel] at hs; cases hs; rfl) hst hW hd (fun vm1 _ => ⟨b, rfl⟩)
  have hv2 := hv1 b rfl
  subst hv2 hB
  exact ⟨_, X', eT, fun target k => st.trans k⟩
end Own
end Jvm.RoadKit
namespace Jvm.Pilot.@@N@@
open Jvm Jvm.ClassFile Sem Op Lib Jvm.Free Jvm.Stand Jvm.LawKit Jvm.RoadKit Bundle Jvm.Free.Fl Jvm.Pilot.@@N@@.Jvm.D
theorem ow {Z : State} {a0 : Array Value} (hw : ∀ d ∈ tables_1, d.before a0 Z = true) (i : Nat) {d : Jvm.Cond} (q : tables_1[i]? = some d) : d.before a0 Z = true := hw _ (List.mem_of_getElem? q)
theorem own_hwS {Z : State} {a0 : Array Value} (hw : ∀ d ∈ tables_1, d.before a0 Z = true) : ∀ a ∈ Bundle.stringAtoms, a.before a0 Z = true := by
  intro a ha
  simp only [Bundle.stringAtoms, List.mem_cons, List.not_mem_nil, or_false] at ha
  rcases ha with rfl | rfl | rfl | rfl | rfl | rfl | rfl
  · exact (ow hw 20 rfl)
  · exact (ow hw 21 rfl)
  · exact (ow hw 22 rfl)
  · exact (ow hw 23 rfl)
  · exact (ow hw 24 rfl)
  · exact (ow hw 25 rfl)
  · exact (ow hw 26 rfl)
theorem d0_0 : decode jdk_30_method_1_code 0 = .ok (.aload_n 0, 1) := by decide +kernel
theorem d0_1 : decode jdk_30_method_1_code 1 = .ok (.invokespecial 1, 3) := by decide +kernel
theorem d0_4 : decode jdk_30_method_1_code 4 = .ok (.return_, 1) := by decide +kernel
theorem pn_0 : plainName "java/lang/Record" = true := by first | (simp [plainName, overriddenIn]; done) | decide +kernel
def Q_rmR (Z : State) (ob : Addr) (h0 : Heap) (n0 : Nat) (v : Option Value) (h : Heap) (L : List Loc) : Prop := v = none ∧ Fr n0 L ∧ h = h0
theorem ef_rmR (m : MethodId) (ob : Addr) : entryFrame m #[(.ref ob)] 1 = mkF m 0 #[.val (.ref ob)] [] := by first | (simp [entryFrame, mkF, argsToLocals, Value.category]; done) | rfl
set_option maxRecDepth 65536 in
set_option maxHeartbeats 40000000 in
theorem rmR (l : Launch) (Z : State) (a0 : Array Value) (hw : ∀ d ∈ tables_1, d.before a0 Z = true) (ws : List Jvm.Cond) (ob : Addr) (h0 : Heap) (n0 : Nat) (Z0 : n0 ≤ h0.size) :
    MetFree l (⟨"java/lang/Record", "<init>", "()V"⟩ : MethodName) (head1 (Jvm.Cond.code (⟨"java/lang/Record", "<init>", "()V"⟩ : MethodName) jdk_30_method_1_code 1 none :: ws) ({ frames := 1, cells := 0, slots := 0, locals := 12 } : Room)) (fun a U => a = #[(.ref ob)] ∧ Z.Warmed39 U.vm ∧ U.heap = h0) (fun _ _ _ _ _ => True) (fun _ U o U' => ∃ v L, o = .returned v ∧ Q_rmR Z ob h0 n0 v U'.heap L ∧ FrameEnd U o U' L ({ frames := 1, cells := 0, slots := 0, locals := 12 } : Room).cells ({ frames := 1, cells := 0, slots := 0, locals := 12 } : Room).slots) := by
  refine MetFree.of_bodySF (plainFor_of_name pn_0) hisR ?_
  intro p e s m args below meth c s₁ Bd hml0 hP hK
  obtain ⟨rfl, hZ, hh⟩ := hP
  have hx := Bd.exec
  have hby := Bd.bytes
  have hml : c.maxLocals = 1 := hml0
  have hown : s.vm.findClass "java/lang/Record" = some m.cls := findClass_of_methodNamed Bd.named
  have hnm := (name_of_methodNamed Bd.named Bd.method).1
  have X0 : Stand p l e ({ frames := 1, cells := 0, slots := 0, locals := 12 } : Room) s m #[(.ref ob)] below meth c s₁ [] 0 0 := Stand.of_body Bd
  have e0 : s₁.heap = h0 := by rw [← hh, Bd.state]; rfl
  have N0 := Fr.nil n0
  have pre0 : ∀ t, Steps p.tables e below (s₁.setTop (mkF m 0 #[.val (.ref ob)] [])) t → Steps p.tables e below (s₁.setTop (entryFrame m #[(.ref ob)] 1)) t := fun t k => castTop (ef_rmR m ob) k
  obtain ⟨T1, X1, e1, st1⟩ := initO X0 hx hZ hown (ow hw 11 rfl) (ow hw 12 rfl) (ow hw 13 rfl) e0 (g := (mkF m 1 #[.val (.ref ob)] [(.ref ob)])) rfl (by rw [hml]; rfl) rfl (hb hby d0_1) (by decide) (W := 0) (by show 2 * 0 + _ ≤ _; exact Nat.le_of_eq rfl) (by decide)
  obtain ⟨fs, hr, hrun, hended, hW, hsame⟩ := X1.leave (v := none) (fun _ => rfl)
  refine ⟨_, _, pre0 _ ?_, hrun, hended, _, _, rfl, ?_, ⟨_, rfl⟩, hW, hsame.mono (by decide) (by decide)⟩
  · show Steps p.tables e below (s₁.setTop (mkF m 0 #[.val (.ref ob)] [])) _
    refine XS.aloadN X0.here hx rfl (hb hby d0_0) rfl rfl ?_
    show Steps p.tables e below (s₁.setTop (mkF m 1 #[.val (.ref ob)] [(.ref ob)])) _
    refine st1 _ ?_
    show Steps p.tables e below (T1.setTop (mkF m 4 #[.val (.ref ob)] [])) _
    exact X1.returnOut hx Bd.returns (hb hby d0_4) hr
  · show Q_rmR Z ob h0 n0 _ T1.heap _
    rw [e1]
    exact ⟨rfl, N0, rfl⟩
theorem d1_0 : decode jdk_31_method_11_code 0 = .ok (.aload_n 0, 1) := by decide +kernel
theorem d1_1 : decode jdk_31_method_11_code 1 = .ok (.ifnonnull 12, 3) := by decide +kernel
theorem d1_13 : decode jdk_31_method_11_code 13 = .ok (.aload_n 0, 1) := by decide +kernel
theorem d1_14 : decode jdk_31_method_11_code 14 = .ok (.areturn, 1) := by decide +kernel
theorem pn_1 : plainName "java/util/Objects" = true := by first | (simp [plainName, overriddenIn]; done) | decide +kernel
def Q_rmNN (Z : State) (oa : Addr) (ob : Addr) (h0 : Heap) (n0 : Nat) (v : Option Value) (h : Heap) (L : List Loc) : Prop := v = some (.ref oa) ∧ Fr n0 L ∧ h = h0
theorem ef_rmNN (m : MethodId) (oa : Addr) (ob : Addr) : entryFrame m #[(.ref oa), (.ref ob)] 2 = mkF m 0 #[.val (.ref oa), .val (.ref ob)] [] := by first | (simp [entryFrame, mkF, argsToLocals, Value.category]; done) | rfl
set_option maxRecDepth 65536 in
set_option maxHeartbeats 40000000 in
theorem rmNN (l : Launch) (Z : State) (a0 : Array Value) (hw : ∀ d ∈ tables_1, d.before a0 Z = true) (ws : List Jvm.Cond) (oa : Addr) (ob : Addr) (h0 : Heap) (n0 : Nat) (Z0 : n0 ≤ h0.size) :
    MetFree l (⟨"java/util/Objects", "requireNonNull", "(Ljava/lang/Object;Ljava/lang/String;)Ljava/lang/Object;"⟩ : MethodName) (head1 (Jvm.Cond.code (⟨"java/util/Objects", "requireNonNull", "(Ljava/lang/Object;Ljava/lang/String;)Ljava/lang/Object;"⟩ : MethodName) jdk_31_method_11_code 2 (some (.object "java/lang/Object")) :: ws) ({ frames := 0, cells := 0, slots := 0, locals := 0 } : Room)) (fun a U => a = #[(.ref oa), (.ref ob)] ∧ Z.Warmed39 U.vm ∧ U.heap = h0) (fun _ _ _ _ _ => True) (fun _ U o U' => ∃ v L, o = .returned v ∧ Q_rmNN Z oa ob h0 n0 v U'.heap L ∧ FrameEnd U o U' L ({ frames := 0, cells := 0, slots := 0, locals := 0 } : Room).cells ({ frames := 0, cells := 0, slots := 0, locals := 0 } : Room).slots) := by
  refine MetFree.of_bodySF (plainFor_of_name pn_1) hisR ?_
  intro p e s m args below meth c s₁ Bd hml0 hP hK
  obtain ⟨rfl, hZ, hh⟩ := hP
  have hx := Bd.exec
  have hby := Bd.bytes
  have hml : c.maxLocals = 2 := hml0
  have hown : s.vm.findClass "java/util/Objects" = some m.cls := findClass_of_methodNamed Bd.named
  have hnm := (name_of_methodNamed Bd.named Bd.method).1
  have X0 : Stand p l e ({ frames := 0, cells := 0, slots := 0, locals := 0 } : Room) s m #[(.ref oa), (.ref ob)] below meth c s₁ [] 0 0 := Stand.of_body Bd
  have e0 : s₁.heap = h0 := by rw [← hh, Bd.state]; rfl
  have N0 := Fr.nil n0
  have pre0 : ∀ t, Steps p.tables e below (s₁.setTop (mkF m 0 #[.val (.ref oa), .val (.ref ob)] [])) t → Steps p.tables e below (s₁.setTop (entryFrame m #[(.ref oa), (.ref ob)] 2)) t := fun t k => castTop (ef_rmNN m oa ob) k
  obtain ⟨fs, hr, hrun, hended, hW, hsame⟩ := X0.leave (v := some (.ref oa)) (fun h => by rw [Bd.returns] at h; cases h)
  refine ⟨_, _, pre0 _ ?_, hrun, hended, _, _, rfl, ?_, ⟨_, rfl⟩, hW, hsame.mono (by decide) (by decide)⟩
  · show Steps p.tables e below (s₁.setTop (mkF m 0 #[.val (.ref oa), .val (.ref ob)] [])) _
    refine XS.aloadN X0.here hx rfl (hb hby d1_0) rfl rfl ?_
    show Steps p.tables e below (s₁.setTop (mkF m 1 #[.val (.ref oa), .val (.ref ob)] [(.ref oa)])) _
    refine XS.ifnonnullYes X0.here hx rfl (pc0 := 1) (pc' := 13) rfl (hb hby d1_1) rfl (by decide) (by decide) ?_
    show Steps p.tables e below (s₁.setTop (mkF m 13 #[.val (.ref oa), .val (.ref ob)] [])) _
    refine XS.aloadN X0.here hx rfl (hb hby d1_13) rfl rfl ?_
    show Steps p.tables e below (s₁.setTop (mkF m 14 #[.val (.ref oa), .val (.ref ob)] [(.ref oa)])) _
    exact retOut X0 hx Bd.returns rfl (Or.inr (Or.inr (Or.inr (Or.inr ⟨rfl, rfl, rfl⟩)))) (hb hby d1_14) hr
  · show Q_rmNN Z oa ob h0 n0 _ s₁.heap _
    rw [e0]
    exact ⟨rfl, N0, rfl⟩
theorem d2_0 : decode jdk_42_method_55_code 0 = .ok (.aload_n 0, 1) := by decide +kernel
theorem d2_1 : decode jdk_42_method_55_code 1 = .ok (.getfield 9, 3) := by decide +kernel
theorem d2_4 : decode jdk_42_method_55_code 4 = .ok (.arraylength, 1) := by decide +kernel
theorem d2_5 : decode jdk_42_method_55_code 5 = .ok (.ifCond .ne 7, 3) := by decide +kernel
theorem d2_12 : decode jdk_42_method_55_code 12 = .ok (.iconst 0, 1) := by decide +kernel
theorem d2_13 : decode jdk_42_method_55_code 13 = .ok (.ireturn, 1) := by decide +kernel
theorem pn_2 : plainName "java/lang/String" = true := by first | (simp [plainName, overriddenIn]; done) | decide +kernel
def Q_rmIE (Z : State) (ob : Addr) (va : Addr) (ka : ClassId) (vs : List Value) (h0 : Heap) (n0 : Nat) (v : Option Value) (h : Heap) (L : List Loc) : Prop := v = some (.int (0 : Int32)) ∧ Fr n0 L ∧ h = h0
theorem ef_rmIE (m : MethodId) (ob : Addr) : entryFrame m #[(.ref ob)] 1 = mkF m 0 #[.val (.ref ob)] [] := by first | (simp [entryFrame, mkF, argsToLocals, Value.category]; done) | rfl
set_option maxRecDepth 65536 in
set_option maxHeartbeats 40000000 in
theorem rmIE (l : Launch) (Z : State) (a0 : Array Value) (hw : ∀ d ∈ tables_1, d.before a0 Z = true) (ws : List Jvm.Cond) (ob : Addr) (va : Addr) (ka : ClassId) (vs : List Value) (h0 : Heap) (n0 : Nat) (Z0 : n0 ≤ h0.size) (F_value_ob : Fld Z h0 ob "java/lang/String" "value" "[B" (.ref va)) (V_va : Arv Z h0 va ka .byte (1 : Int32) vs (.int (0 : Int32))) :
    MetFree l (⟨"java/lang/String", "isEmpty", "()Z"⟩ : MethodName) (head1 (Jvm.Cond.code (⟨"java/lang/String", "isEmpty", "()Z"⟩ : MethodName) jdk_42_method_55_code 1 (some .boolean) :: ws) ({ frames := 0, cells := 0, slots := 0, locals := 0 } : Room)) (fun a U => a = #[(.ref ob)] ∧ Z.Warmed39 U.vm ∧ U.heap = h0) (fun _ _ _ _ _ => True) (fun _ U o U' => ∃ v L, o = .returned v ∧ Q_rmIE Z ob va ka vs h0 n0 v U'.heap L ∧ FrameEnd U o U' L ({ frames := 0, cells := 0, slots := 0, locals := 0 } : Room).cells ({ frames := 0, cells := 0, slots := 0, locals := 0 } : Room).slots) := by
  refine MetFree.of_bodySF (plainFor_of_name pn_2) hisR ?_
  intro p e s m args below meth c s₁ Bd hml0 hP hK
  obtain ⟨rfl, hZ, hh⟩ := hP
  have hx := Bd.exec
  have hby := Bd.bytes
  have hml : c.maxLocals = 1 := hml0
  have hown : s.vm.findClass "java/lang/String" = some m.cls := findClass_of_methodNamed Bd.named
  have hnm := (name_of_methodNamed Bd.named Bd.method).1
  have X0 : Stand p l e ({ frames := 0, cells := 0, slots := 0, locals := 0 } : Room) s m #[(.ref ob)] below meth c s₁ [] 0 0 := Stand.of_body Bd
  have e0 : s₁.heap = h0 := by rw [← hh, Bd.state]; rfl
  have N0 := Fr.nil n0
  have pre0 : ∀ t, Steps p.tables e below (s₁.setTop (mkF m 0 #[.val (.ref ob)] [])) t → Steps p.tables e below (s₁.setTop (entryFrame m #[(.ref ob)] 1)) t := fun t k => castTop (ef_rmIE m ob) k
  obtain ⟨T1, X1, e1, st1⟩ := getF X0 hx hZ hown (host := "") (Or.inl (ow hw 41 rfl)) Via.refl e0 F_value_ob (g := (mkF m 1 #[.val (.ref ob)] [(.ref ob)])) rfl rfl (hb hby d2_1)
  have Vc2 := V_va
  obtain ⟨cl2, Ar2, -, S2, M2, -, -⟩ := Vc2
  obtain ⟨fs, hr, hrun, hended, hW, hsame⟩ := X1.leave (v := some (.int (0 : Int32))) (fun h => by rw [Bd.returns] at h; cases h)
  refine ⟨_, _, pre0 _ ?_, hrun, hended, _, _, rfl, ?_, ⟨_, rfl⟩, hW, hsame.mono (by decide) (by decide)⟩
  · show Steps p.tables e below (s₁.setTop (mkF m 0 #[.val (.ref ob)] [])) _
    refine XS.aloadN X0.here hx rfl (hb hby d2_0) rfl rfl ?_
    show Steps p.tables e below (s₁.setTop (mkF m 1 #[.val (.ref ob)] [(.ref ob)])) _
    refine st1 _ ?_
    show Steps p.tables e below (T1.setTop (mkF m 4 #[.val (.ref ob)] [(.ref va)])) _
    refine X1.arraylength hx (cell := cl2) (by rw [e1]; exact Ar2.1) (State.isArrayOf_alike hZ.alike Ar2.2.1) (g := (mkF m 4 #[.val (.ref ob)] [(.ref va)])) rfl (rest := []) rfl (hb hby d2_4) _ ?_
    rw [len_of S2 M2]
    show Steps p.tables e below (T1.setTop (mkF m 5 #[.val (.ref ob)] [(.int (1 : Int32))])) _
    refine XS.ifYes X1.here hx rfl (pc0 := 5) (pc' := 12) rfl (hb hby d2_5) rfl ((if0 _ _).trans (feq (by decide : ¬ ((1 : Int32) = (0 : Int32)))).2) (by decide) (by decide) ?_
    show Steps p.tables e below (T1.setTop (mkF m 12 #[.val (.ref ob)] [])) _
    refine XS.iconst X1.here hx rfl (hb hby d2_12) ?_
    show Steps p.tables e below (T1.setTop (mkF m 13 #[.val (.ref ob)] [(.int (0 : Int32))])) _
    exact retN X1 hx (t := .boolean) Bd.returns (by simp) (hb hby d2_13) hr
  · show Q_rmIE Z ob va ka vs h0 n0 _ T1.heap _
    rw [e1]
    exact ⟨rfl, N0, rfl⟩
theorem d3_0 : decode prog_24_method_1_code 0 = .ok (.aload_n 0, 1) := by decide +kernel
theorem d3_1 : decode prog_24_method_1_code 1 = .ok (.invokespecial 1, 3) := by decide +kernel
theorem pd_0 : parseMethodDescriptor "()V" = some ⟨[], none⟩ := by decide +kernel
theorem d3_4 : decode prog_24_method_1_code 4 = .ok (.aload_n 2, 1) := by decide +kernel
theorem d3_5 : decode prog_24_method_1_code 5 = .ok (.ldc 7, 2) := by decide +kernel
theorem d3_7 : decode prog_24_method_1_code 7 = .ok (.invokestatic 9, 3) := by decide +kernel
theorem pd_1 : parseMethodDescriptor "(Ljava/lang/Object;Ljava/lang/String;)Ljava/lang/Object;" = some ⟨[(.object "java/lang/Object"), (.object "java/lang/String")], some (.object "java/lang/Object")⟩ := by decide +kernel
theorem d3_10 : decode prog_24_method_1_code 10 = .ok (.pop, 1) := by decide +kernel
theorem d3_11 : decode prog_24_method_1_code 11 = .ok (.iload_n 1, 1) := by decide +kernel
theorem d3_12 : decode prog_24_method_1_code 12 = .ok (.ifCond .ge 17, 3) := by decide +kernel
theorem d3_29 : decode prog_24_method_1_code 29 = .ok (.aload_n 2, 1) := by decide +kernel
theorem d3_30 : decode prog_24_method_1_code 30 = .ok (.invokevirtual 24, 3) := by decide +kernel
theorem pd_2 : parseMethodDescriptor "()Z" = some ⟨[], some .boolean⟩ := by decide +kernel
theorem d3_33 : decode prog_24_method_1_code 33 = .ok (.ifCond .eq 13, 3) := by decide +kernel
theorem d3_46 : decode prog_24_method_1_code 46 = .ok (.dload_n 3, 1) := by decide +kernel
theorem d3_47 : decode prog_24_method_1_code 47 = .ok (.dconst 0, 1) := by decide +kernel
theorem d3_48 : decode prog_24_method_1_code 48 = .ok (.dcmp .l, 1) := by decide +kernel
theorem d3_49 : decode prog_24_method_1_code 49 = .ok (.ifCond .lt 11, 3) := by decide +kernel
theorem d3_52 : decode prog_24_method_1_code 52 = .ok (.dload_n 3, 1) := by decide +kernel
theorem d3_53 : decode prog_24_method_1_code 53 = .ok (.ldc2_w 34, 3) := by decide +kernel
theorem d3_56 : decode prog_24_method_1_code 56 = .ok (.dcmp .g, 1) := by decide +kernel
theorem d3_57 : decode prog_24_method_1_code 57 = .ok (.ifCond .lt 18, 3) := by decide +kernel
theorem d3_75 : decode prog_24_method_1_code 75 = .ok (.dload_n 3, 1) := by decide +kernel
theorem d3_76 : decode prog_24_method_1_code 76 = .ok (.dconst 0, 1) := by decide +kernel
theorem d3_77 : decode prog_24_method_1_code 77 = .ok (.dadd, 1) := by decide +kernel
theorem d3_78 : decode prog_24_method_1_code 78 = .ok (.dstore_n 3, 1) := by decide +kernel
theorem d3_79 : decode prog_24_method_1_code 79 = .ok (.aload_n 0, 1) := by decide +kernel
theorem d3_80 : decode prog_24_method_1_code 80 = .ok (.iload_n 1, 1) := by decide +kernel
theorem d3_81 : decode prog_24_method_1_code 81 = .ok (.putfield 39, 3) := by decide +kernel
theorem d3_84 : decode prog_24_method_1_code 84 = .ok (.aload_n 0, 1) := by decide +kernel
theorem d3_85 : decode prog_24_method_1_code 85 = .ok (.aload_n 2, 1) := by decide +kernel
theorem d3_86 : decode prog_24_method_1_code 86 = .ok (.putfield 45, 3) := by decide +kernel
theorem d3_89 : decode prog_24_method_1_code 89 = .ok (.aload_n 0, 1) := by decide +kernel
theorem d3_90 : decode prog_24_method_1_code 90 = .ok (.dload_n 3, 1) := by decide +kernel
theorem d3_91 : decode prog_24_method_1_code 91 = .ok (.putfield 48, 3) := by decide +kernel
theorem d3_94 : decode prog_24_method_1_code 94 = .ok (.return_, 1) := by decide +kernel
theorem pn_3 : plainName "com/example/sortition/sortition/Element" = true := by first | (simp [plainName, overriddenIn]; done) | decide +kernel
def Q_rmEI (Z : State) (ob : Addr) (p1 : Int32) (st : Addr) (t3 : UInt64) (va : Addr) (ka : ClassId) (vs : List Value) (u_index_ob : Value) (u_id_ob : Value) (u_value_ob : Value) (h0 : Heap) (n0 : Nat) (v : Option Value) (h : Heap) (L : List Loc) : Prop := v = none ∧ Fr n0 L ∧ Keep h0 h [ob] ∧ Exa Z h ob "com/example/sortition/sortition/Element" ∧ Fld Z h ob "com/example/sortition/sortition/Element" "index" "I" (.int p1) ∧ Fld Z h ob "com/example/sortition/sortition/Element" "value" "D" (.double (FP.dadd t3 0))
theorem ef_rmEI (m : MethodId) (ob : Addr) (p1 : Int32) (st : Addr) (t3 : UInt64) : entryFrame m #[(.ref ob), (.int p1), (.ref st), (.double t3)] 5 = mkF m 0 #[.val (.ref ob), .val (.int p1), .val (.ref st), .val (.double t3), .second] [] := by first | (simp [entryFrame, mkF, argsToLocals, Value.category]; done) | rfl
set_option maxRecDepth 65536 in
set_option maxHeartbeats 40000000 in
theorem rmEI (l : Launch) (Z : State) (a0 : Array Value) (hw : ∀ d ∈ tables_1, d.before a0 Z = true) (ws : List Jvm.Cond) (ob : Addr) (p1 : Int32) (st : Addr) (t3 : UInt64) (va : Addr) (ka : ClassId) (vs : List Value) (u_index_ob : Value) (u_id_ob : Value) (u_value_ob : Value) (h0 : Heap) (n0 : Nat) (Z0 : n0 ≤ h0.size) (hwS : ∀ a ∈ Bundle.stringAtoms, a.before a0 Z = true) (E_st : Exa Z h0 st "java/lang/String") (F_value_st : Fld Z h0 st "java/lang/String" "value" "[B" (.ref va)) (V_va : Arv Z h0 va ka .byte (1 : Int32) vs (.int (0 : Int32))) (hc12 : ¬ (p1 < (0 : Int32))) (hc49 : ¬ ((cmpValue (FP.dcmp t3 0) .l) < (0 : Int32))) (hc57 : (cmpValue (FP.dcmp t3 9218868437227405312) .g) < (0 : Int32)) (nn77 : NoNaN64 (FP.dadd t3 0)) (F_index_ob : Fld Z h0 ob "com/example/sortition/sortition/Element" "index" "I" u_index_ob) (E_ob : Exa Z h0 ob "com/example/sortition/sortition/Element") (g_ob : n0 ≤ ob) (F_id_ob : Fld Z h0 ob "com/example/sortition/sortition/Element" "id" "Ljava/lang/String;" u_id_ob) (F_value_ob : Fld Z h0 ob "com/example/sortition/sortition/Element" "value" "D" u_value_ob) :
    MetFree l (⟨"com/example/sortition/sortition/Element", "<init>", "(ILjava/lang/String;D)V"⟩ : MethodName) (head1 (Jvm.Cond.code (⟨"com/example/sortition/sortition/Element", "<init>", "(ILjava/lang/String;D)V"⟩ : MethodName) prog_24_method_1_code 5 none :: ws) ({ frames := 2, cells := 2, slots := 12, locals := 24 } : Room)) (fun a U => a = #[(.ref ob), (.int p1), (.ref st), (.double t3)] ∧ Z.Warmed39 U.vm ∧ U.heap = h0) (fun _ _ _ _ _ => True) (fun _ U o U' => ∃ v L, o = .returned v ∧ Q_rmEI Z ob p1 st t3 va ka vs u_index_ob u_id_ob u_value_ob h0 n0 v U'.heap L ∧ ReturnedEndW U o U' L ({ frames := 2, cells := 2, slots := 12, locals := 24 } : Room).cells ({ frames := 2, cells := 2, slots := 12, locals := 24 } : Room).slots) := by
  refine MetFree.of_bodySF (plainFor_of_name pn_3) hisR ?_
  intro p e s m args below meth c s₁ Bd hml0 hP hK
  obtain ⟨rfl, hZ, hh⟩ := hP
  have hx := Bd.exec
  have hby := Bd.bytes
  have hml : c.maxLocals = 5 := hml0
  have hown : s.vm.findClass "com/example/sortition/sortition/Element" = some m.cls := findClass_of_methodNamed Bd.named
  have hnm := (name_of_methodNamed Bd.named Bd.method).1
  have X0 : Stand p l e ({ frames := 2, cells := 2, slots := 12, locals := 24 } : Room) s m #[(.ref ob), (.int p1), (.ref st), (.double t3)] below meth c s₁ [] 0 0 := Stand.of_body Bd
  have e0 : s₁.heap = h0 := by rw [← hh, Bd.state]; rfl
  have N0 := Fr.nil n0
  have hS0 := (State.WarmedH.refl s).since 0
  have pre0 : ∀ t, Steps p.tables e below (s₁.setTop (mkF m 0 #[.val (.ref ob), .val (.int p1), .val (.ref st), .val (.double t3), .second] [])) t → Steps p.tables e below (s₁.setTop (entryFrame m #[(.ref ob), (.int p1), (.ref st), (.double t3)] 5)) t := fun t k => castTop (ef_rmEI m ob p1 st t3) k
  obtain ⟨_, _, ⟨T1, L1, k1, n1⟩, -, X1, ⟨Lc1, hQ1, l1, y1, z1⟩, st1⟩ := X0.specialBack hx (y := (⟨"java/lang/Record", "<init>", "()V"⟩ : MethodName)) rfl hown (mvT hZ (ow hw 30 rfl)) (mvT hZ (ow hw 7 rfl)) (mvT hZ (ow hw 10 rfl)) (by decide) (backOf (W := 0) (rmR l Z a0 hw [] ob h0 n0 Z0) hZ (ow hw 10 rfl) (ow hw 9 rfl) (by decide) (by decide)) (g := (mkF m 1 #[.val (.ref ob), .val (.int p1), .val (.ref st), .val (.double t3), .second] [(.ref ob)])) rfl (by rw [hml]; rfl) (Steps.refl _) (a := ob) (argsL := []) (rest := []) (lenOf pd_0 rfl) rfl (by show 2 * 0 + _ ≤ _; exact Nat.le_of_eq rfl) (hb hby d3_1) (fun _ _ => ⟨rfl, e0, (by decide : 0 + 0 ≤ _), (by decide : 0 + 0 ≤ _)⟩)
  dsimp only [Pt.U, Pt.locs, Pt.cells, Pt.slots] at X1 l1 y1 z1 st1 hQ1
  subst l1 y1 z1
  obtain ⟨rfl, Nq1, e1⟩ := hQ1
  have N1 := Fr.app N0 Nq1
  obtain ⟨a2, T2, h2, k2, X2, e2, E2, hS2, hk2, hZ2, hown2, st2⟩ := ldcS (s := s) (vm0 := s.vm) X1 hx hZ hown (ow hw 31 rfl) hwS e1 hS0 (Nat.zero_le _) (g := (mkF m 5 #[.val (.ref ob), .val (.int p1), .val (.ref st), .val (.double t3), .second] [(.ref st)])) rfl (hb hby d3_5) (n := 8) (by decide) (by decide) (by decide) (by decide)
  obtain ⟨_, _, ⟨T3, L3, k3, n3⟩, -, X3, ⟨Lc3, hQ3, l3, y3, z3⟩, st3⟩ := Jvm.LawKit.callS X2 hx (y := (⟨"java/util/Objects", "requireNonNull", "(Ljava/lang/Object;Ljava/lang/String;)Ljava/lang/Object;"⟩ : MethodName)) hown2 (mvT hZ2 (ow hw 32 rfl)) (mvT hZ2 (ow hw 33 rfl)) (mvT hZ2 (ow hw 34 rfl)) (mvT hZ2 (ow hw 35 rfl)) (by decide) (backOf (W := 0) (rmNN l Z a0 hw [] st a2 h2 n0 (Nat.le_trans Z0 E2.1)) hZ2 (ow hw 35 rfl) (ow hw 34 rfl) (by decide) (by decide)) (g := (mkF m 7 #[.val (.ref ob), .val (.int p1), .val (.ref st), .val (.double t3), .second] [(.ref a2), (.ref st)])) rfl (by rw [hml]; rfl) (argsL := [(.ref st), (.ref a2)]) (rest := []) (lenOf pd_1 rfl) rfl (by show 2 * 0 + _ ≤ _; exact Nat.le_of_eq rfl) (hb hby d3_7) (fun _ _ => ⟨rfl, e2, (by decide : 2 + 0 ≤ _), (by decide : 12 + 0 ≤ _)⟩)
  dsimp only [Pt.U, Pt.locs, Pt.cells, Pt.slots] at X3 l3 y3 z3 st3 hQ3
  subst l3 y3 z3
  obtain ⟨rfl, Nq3, e3⟩ := hQ3
  have N3 := Fr.app N1 Nq3
  have f5 : Fld Z h2 st "java/lang/String" "value" "[B" (.ref va) := (F_value_st.ext E2)
  have f6 : Arv Z h2 va ka .byte (1 : Int32) vs (.int (0 : Int32)) := (V_va.ext E2)
  have f7 : Exa Z h2 st "java/lang/String" := (E_st.ext E2)
  obtain ⟨cq4, kq4, q4a, q4b, q4c⟩ := isOf hZ2 e3 f7
  obtain ⟨_, _, ⟨T4, L4, k4, n4⟩, -, X4, ⟨Lc4, hQ4, l4, y4, z4⟩, st4⟩ := X3.virtualBack hx (y := (⟨"java/lang/String", "isEmpty", "()Z"⟩ : MethodName)) (z := (⟨"java/lang/String", "isEmpty", "()Z"⟩ : MethodName)) hown2 (mvT hZ2 (ow hw 36 rfl)) (mvT hZ2 (ow hw 37 rfl)) (notFace_of_selects (args := #[]) (mvT hZ2 (ow hw 39 rfl))) (mvT hZ2 (ow hw 39 rfl)) (mvT hZ2 (ow hw 38 rfl)) (by decide) (backOf (W := 0) (rmIE l Z a0 hw [] st va ka vs h2 n0 (Nat.le_trans Z0 E2.1) f5 f6) hZ2 (ow hw 40 rfl) (ow hw 20 rfl) (by decide) (by decide)) q4a q4c (g := (mkF m 30 #[.val (.ref ob), .val (.int p1), .val (.ref st), .val (.double t3), .second] [(.ref st)])) rfl (by rw [hml]; rfl) (Steps.refl _) (argsL := []) (rest := []) (lenOf pd_2 rfl) rfl (by show 2 * 0 + _ ≤ _; exact Nat.le_of_eq rfl) (hb hby d3_30) (fun _ _ => ⟨rfl, e3, (by decide : 2 + 0 ≤ _), (by decide : 12 + 0 ≤ _)⟩)
  dsimp only [Pt.U, Pt.locs, Pt.cells, Pt.slots] at X4 l4 y4 z4 st4 hQ4
  subst l4 y4 z4
  obtain ⟨rfl, Nq4, e4⟩ := hQ4
  have N4 := Fr.app N3 Nq4
  have f8 : Fld Z h2 ob "com/example/sortition/sortition/Element" "index" "I" u_index_ob := (F_index_ob.ext E2)
  have f9 : Exa Z h2 ob "com/example/sortition/sortition/Element" := (E_ob.ext E2)
  obtain ⟨T10, h10, X10, e10, W10, st10⟩ := putF X4 hx hZ2 hown2 (host := "") (Or.inl (ow hw 43 rfl)) Via.refl e4 f8 f9 (Or.inr ⟨(ow hw 44 rfl), rfl, hnm⟩) (ow hw 17 rfl) (ty := .int) (by decide) rfl rfl (g := (mkF m 81 #[.val (.ref ob), .val (.int p1), .val (.ref st), .val (.double (FP.dadd t3 0)), .second] [(.int p1), (.ref ob)])) rfl rfl (hb hby d3_81)
  have Fw10 := f8.same W10
  have N10 := Fr.snoc X10 N4 g_ob
  have f11 : Fld Z h10 ob "com/example/sortition/sortition/Element" "id" "Ljava/lang/String;" u_id_ob := ((F_id_ob.ext E2).other W10 (Or.inr (slot_ne (Or.inr (ow hw 46 rfl)) (Or.inr (ow hw 44 rfl)) (by decide) (t := (.object "java/lang/String")) (t' := .int) (by decide) (by decide))))
  have f12 : Exa Z h10 ob "com/example/sortition/sortition/Element" := (f9.wr W10)
  obtain ⟨T13, h13, X13, e13, W13, st13⟩ := putF X10 hx hZ2 hown2 (host := "") (Or.inl (ow hw 45 rfl)) Via.refl e10 f11 f12 (Or.inr ⟨(ow hw 46 rfl), rfl, hnm⟩) (ow hw 17 rfl) (ty := (.object "java/lang/String")) (by decide) rfl rfl (g := (mkF m 86 #[.val (.ref ob), .val (.int p1), .val (.ref st), .val (.double (FP.dadd t3 0)), .second] [(.ref st), (.ref ob)])) rfl rfl (hb hby d3_86)
  have Fw13 := f11.same W13
  have N13 := Fr.snoc X13 N10 g_ob
  have f14 : Fld Z h13 ob "com/example/sortition/sortition/Element" "value" "D" u_value_ob := (((F_value_ob.ext E2).other W10 (Or.inr (slot_ne (Or.inr (ow hw 48 rfl)) (Or.inr (ow hw 44 rfl)) (by decide) (t := .double) (t' := .int) (by decide) (by decide)))).other W13 (Or.inr (slot_ne (Or.inr (ow hw 48 rfl)) (Or.inr (ow hw 46 rfl)) (by decide) (t := .double) (t' := (.object "java/lang/String")) (by decide) (by decide))))
  have f15 : Exa Z h13 ob "com/example/sortition/sortition/Element" := (f12.wr W13)
  obtain ⟨T16, h16, X16, e16, W16, st16⟩ := putF X13 hx hZ2 hown2 (host := "") (Or.inl (ow hw 47 rfl)) Via.refl e13 f14 f15 (Or.inr ⟨(ow hw 48 rfl), rfl, hnm⟩) (ow hw 17 rfl) (ty := .double) (by decide) rfl rfl (g := (mkF m 91 #[.val (.ref ob), .val (.int p1), .val (.ref st), .val (.double (FP.dadd t3 0)), .second] [(.double (FP.dadd t3 0)), (.ref ob)])) rfl rfl (hb hby d3_91)
  have Fw16 := f14.same W16
  have N16 := Fr.snoc X16 N13 g_ob
  have f17 : Exa Z h16 ob "com/example/sortition/sortition/Element" := (f15.wr W16)
  have f18 : Fld Z h16 ob "com/example/sortition/sortition/Element" "index" "I" (.int p1) := ((Fw10.other W13 (Or.inr (slot_ne (Or.inr (ow hw 44 rfl)) (Or.inr (ow hw 46 rfl)) (by decide) (t := .int) (t' := (.object "java/lang/String")) (by decide) (by decide)))).other W16 (Or.inr (slot_ne (Or.inr (ow hw 44 rfl)) (Or.inr (ow hw 48 rfl)) (by decide) (t := .int) (t' := .double) (by decide) (by decide))))
  obtain ⟨fs, hr, hrun, hended, hRW⟩ := X16.leaveW (s := s) hS2 (by rw [e16]; exact (Nat.le_trans (Nat.le_trans (Nat.le_trans hk2 (Keep.of_wr W10).1) (Keep.of_wr W13).1) (Keep.of_wr W16).1)) (v := none) (fun _ => rfl)
  refine ⟨_, _, pre0 _ ?_, hrun, hended, _, _, rfl, ?_, hRW.1, hRW.2.1, hRW.2.2.1, hRW.2.2.2.mono (by decide) (by decide)⟩
  · show Steps p.tables e below (s₁.setTop (mkF m 0 #[.val (.ref ob), .val (.int p1), .val (.ref st), .val (.double t3), .second] [])) _
    refine XS.aloadN X0.here hx rfl (hb hby d3_0) rfl rfl ?_
    show Steps p.tables e below (s₁.setTop (mkF m 1 #[.val (.ref ob), .val (.int p1), .val (.ref st), .val (.double t3), .second] [(.ref ob)])) _
    refine st1.trans ?_
    show Steps p.tables e below (T1.setTop (mkF m 4 #[.val (.ref ob), .val (.int p1), .val (.ref st), .val (.double t3), .second] [])) _
    refine XS.aloadN X1.here hx rfl (hb hby d3_4) rfl rfl ?_
    show Steps p.tables e below (T1.setTop (mkF m 5 #[.val (.ref ob), .val (.int p1), .val (.ref st), .val (.double t3), .second] [(.ref st)])) _
    refine st2 _ ?_
    show Steps p.tables e below (T2.setTop (mkF m 7 #[.val (.ref ob), .val (.int p1), .val (.ref st), .val (.double t3), .second] [(.ref a2), (.ref st)])) _
    refine st3 _ ?_
    show Steps p.tables e below (T3.setTop (mkF m 10 #[.val (.ref ob), .val (.int p1), .val (.ref st), .val (.double t3), .second] [(.ref st)])) _
    refine XS.pop X3.here hx rfl (hb hby d3_10) rfl rfl ?_
    show Steps p.tables e below (T3.setTop (mkF m 11 #[.val (.ref ob), .val (.int p1), .val (.ref st), .val (.double t3), .second] [])) _
    refine XS.iloadN X3.here hx rfl (hb hby d3_11) rfl ?_
    show Steps p.tables e below (T3.setTop (mkF m 12 #[.val (.ref ob), .val (.int p1), .val (.ref st), .val (.double t3), .second] [(.int p1)])) _
    refine XS.ifYes X3.here hx rfl (pc0 := 12) (pc' := 29) rfl (hb hby d3_12) rfl ((if0 _ _).trans (flt hc12).2.1) (by decide) (by decide) ?_
    show Steps p.tables e below (T3.setTop (mkF m 29 #[.val (.ref ob), .val (.int p1), .val (.ref st), .val (.double t3), .second] [])) _
    refine XS.aloadN X3.here hx rfl (hb hby d3_29) rfl rfl ?_
    show Steps p.tables e below (T3.setTop (mkF m 30 #[.val (.ref ob), .val (.int p1), .val (.ref st), .val (.double t3), .second] [(.ref st)])) _
    refine st4.trans ?_
    show Steps p.tables e below (T4.setTop (mkF m 33 #[.val (.ref ob), .val (.int p1), .val (.ref st), .val (.double t3), .second] [(.int (0 : Int32))])) _
    refine XS.ifYes X4.here hx rfl (pc0 := 33) (pc' := 46) rfl (hb hby d3_33) rfl ((if0 _ _).trans (teq (rfl : (0 : Int32) = (0 : Int32))).1) (by decide) (by decide) ?_
    show Steps p.tables e below (T4.setTop (mkF m 46 #[.val (.ref ob), .val (.int p1), .val (.ref st), .val (.double t3), .second] [])) _
    refine XS.dloadN X4.here hx rfl (hb hby d3_46) rfl ?_
    show Steps p.tables e below (T4.setTop (mkF m 47 #[.val (.ref ob), .val (.int p1), .val (.ref st), .val (.double t3), .second] [(.double t3)])) _
    refine XS.dconst0 X4.here hx rfl (hb hby d3_47) (v := 0) rfl ?_
    show Steps p.tables e below (T4.setTop (mkF m 48 #[.val (.ref ob), .val (.int p1), .val (.ref st), .val (.double t3), .second] [(.double 0), (.double t3)])) _
    refine XS.dcmpS X4.here hx rfl (hb hby d3_48) rfl rfl ?_
    show Steps p.tables e below (T4.setTop (mkF m 49 #[.val (.ref ob), .val (.int p1), .val (.ref st), .val (.double t3), .second] [(.int (cmpValue (FP.dcmp t3 0) .l))])) _
    refine XS.ifNo X4.here hx rfl (hb hby d3_49) rfl ((if0 _ _).trans (flt hc49).1) ?_
    show Steps p.tables e below (T4.setTop (mkF m 52 #[.val (.ref ob), .val (.int p1), .val (.ref st), .val (.double t3), .second] [])) _
    refine XS.dloadN X4.here hx rfl (hb hby d3_52) rfl ?_
    show Steps p.tables e below (T4.setTop (mkF m 53 #[.val (.ref ob), .val (.int p1), .val (.ref st), .val (.double t3), .second] [(.double t3)])) _
    refine X4.ldc2DoubleC hx hown2 (mvT hZ2 (ow hw 42 rfl)) (g := (mkF m 53 #[.val (.ref ob), .val (.int p1), .val (.ref st), .val (.double t3), .second] [(.double t3)])) rfl (hb hby d3_53) _ ?_
    show Steps p.tables e below (T4.setTop (mkF m 56 #[.val (.ref ob), .val (.int p1), .val (.ref st), .val (.double t3), .second] [(.double 9218868437227405312), (.double t3)])) _
    refine XS.dcmpS X4.here hx rfl (hb hby d3_56) rfl rfl ?_
    show Steps p.tables e below (T4.setTop (mkF m 57 #[.val (.ref ob), .val (.int p1), .val (.ref st), .val (.double t3), .second] [(.int (cmpValue (FP.dcmp t3 9218868437227405312) .g))])) _
    refine XS.ifYes X4.here hx rfl (pc0 := 57) (pc' := 75) rfl (hb hby d3_57) rfl ((if0 _ _).trans (tlt hc57).1) (by decide) (by decide) ?_
    show Steps p.tables e below (T4.setTop (mkF m 75 #[.val (.ref ob), .val (.int p1), .val (.ref st), .val (.double t3), .second] [])) _
    refine XS.dloadN X4.here hx rfl (hb hby d3_75) rfl ?_
    show Steps p.tables e below (T4.setTop (mkF m 76 #[.val (.ref ob), .val (.int p1), .val (.ref st), .val (.double t3), .second] [(.double t3)])) _
    refine XS.dconst0 X4.here hx rfl (hb hby d3_76) (v := 0) rfl ?_
    show Steps p.tables e below (T4.setTop (mkF m 77 #[.val (.ref ob), .val (.int p1), .val (.ref st), .val (.double t3), .second] [(.double 0), (.double t3)])) _
    refine XS.daddS X4.here hx rfl (hb hby d3_77) rfl nn77 rfl ?_
    show Steps p.tables e below (T4.setTop (mkF m 78 #[.val (.ref ob), .val (.int p1), .val (.ref st), .val (.double t3), .second] [(.double (FP.dadd t3 0))])) _
    refine XS.dstoreN X4.here hx rfl (hb hby d3_78) rfl (l' := #[.val (.ref ob), .val (.int p1), .val (.ref st), .val (.double (FP.dadd t3 0)), .second]) rfl ?_
    show Steps p.tables e below (T4.setTop (mkF m 79 #[.val (.ref ob), .val (.int p1), .val (.ref st), .val (.double (FP.dadd t3 0)), .second] [])) _
    refine XS.aloadN X4.here hx rfl (hb hby d3_79) rfl rfl ?_
    show Steps p.tables e below (T4.setTop (mkF m 80 #[.val (.ref ob), .val (.int p1), .val (.ref st), .val (.double (FP.dadd t3 0)), .second] [(.ref ob)])) _
    refine XS.iloadN X4.here hx rfl (hb hby d3_80) rfl ?_
    show Steps p.tables e below (T4.setTop (mkF m 81 #[.val (.ref ob), .val (.int p1), .val (.ref st), .val (.double (FP.dadd t3 0)), .second] [(.int p1), (.ref ob)])) _
    refine st10 _ ?_
    show Steps p.tables e below (T10.setTop (mkF m 84 #[.val (.ref ob), .val (.int p1), .val (.ref st), .val (.double (FP.dadd t3 0)), .second] [])) _
    refine XS.aloadN X10.here hx rfl (hb hby d3_84) rfl rfl ?_
    show Steps p.tables e below (T10.setTop (mkF m 85 #[.val (.ref ob), .val (.int p1), .val (.ref st), .val (.double (FP.dadd t3 0)), .second] [(.ref ob)])) _
    refine XS.aloadN X10.here hx rfl (hb hby d3_85) rfl rfl ?_
    show Steps p.tables e below (T10.setTop (mkF m 86 #[.val (.ref ob), .val (.int p1), .val (.ref st), .val (.double (FP.dadd t3 0)), .second] [(.ref st), (.ref ob)])) _
    refine st13 _ ?_
    show Steps p.tables e below (T13.setTop (mkF m 89 #[.val (.ref ob), .val (.int p1), .val (.ref st), .val (.double (FP.dadd t3 0)), .second] [])) _
    refine XS.aloadN X13.here hx rfl (hb hby d3_89) rfl rfl ?_
    show Steps p.tables e below (T13.setTop (mkF m 90 #[.val (.ref ob), .val (.int p1), .val (.ref st), .val (.double (FP.dadd t3 0)), .second] [(.ref ob)])) _
    refine XS.dloadN X13.here hx rfl (hb hby d3_90) rfl ?_
    show Steps p.tables e below (T13.setTop (mkF m 91 #[.val (.ref ob), .val (.int p1), .val (.ref st), .val (.double (FP.dadd t3 0)), .second] [(.double (FP.dadd t3 0)), (.ref ob)])) _
    refine st16 _ ?_
    show Steps p.tables e below (T16.setTop (mkF m 94 #[.val (.ref ob), .val (.int p1), .val (.ref st), .val (.double (FP.dadd t3 0)), .second] [])) _
    exact X16.returnOut hx Bd.returns (hb hby d3_94) hr
  · show Q_rmEI Z ob p1 st t3 va ka vs u_index_ob u_id_ob u_value_ob h0 n0 _ T16.heap _
    rw [e16]
    exact ⟨rfl, N16, (((((Keep.refl h0 [ob]).ext E2).wr W10 (Or.inl (List.mem_of_getElem? (i := 0) rfl))).wr W13 (Or.inl (List.mem_of_getElem? (i := 0) rfl))).wr W16 (Or.inl (List.mem_of_getElem? (i := 0) rfl))), f17, f18, Fw16⟩
theorem d4_0 : decode prog_48_method_1_code 0 = .ok (.aload_n 0, 1) := by decide +kernel
theorem d4_1 : decode prog_48_method_1_code 1 = .ok (.invokespecial 1, 3) := by decide +kernel
theorem d4_4 : decode prog_48_method_1_code 4 = .ok (.iload_n 1, 1) := by decide +kernel
theorem d4_5 : decode prog_48_method_1_code 5 = .ok (.ifCond .ge 17, 3) := by decide +kernel
theorem d4_22 : decode prog_48_method_1_code 22 = .ok (.aload_n 0, 1) := by decide +kernel
theorem d4_23 : decode prog_48_method_1_code 23 = .ok (.iload_n 1, 1) := by decide +kernel
theorem d4_24 : decode prog_48_method_1_code 24 = .ok (.putfield 16, 3) := by decide +kernel
theorem d4_27 : decode prog_48_method_1_code 27 = .ok (.return_, 1) := by decide +kernel
theorem pn_4 : plainName "com/example/sortition/sortition/Slots" = true := by first | (simp [plainName, overriddenIn]; done) | decide +kernel
def Q_rmSl (Z : State) (ob : Addr) (p1 : Int32) (u_size_ob : Value) (h0 : Heap) (n0 : Nat) (v : Option Value) (h : Heap) (L : List Loc) : Prop := v = none ∧ Fr n0 L ∧ Keep h0 h [ob] ∧ Exa Z h ob "com/example/sortition/sortition/Slots" ∧ Fld Z h ob "com/example/sortition/sortition/Slots" "size" "I" (.int p1)
theorem ef_rmSl (m : MethodId) (ob : Addr) (p1 : Int32) : entryFrame m #[(.ref ob), (.int p1)] 2 = mkF m 0 #[.val (.ref ob), .val (.int p1)] [] := by first | (simp [entryFrame, mkF, argsToLocals, Value.category]; done) | rfl
set_option maxRecDepth 65536 in
set_option maxHeartbeats 40000000 in
theorem rmSl (l : Launch) (Z : State) (a0 : Array Value) (hw : ∀ d ∈ tables_1, d.before a0 Z = true) (ws : List Jvm.Cond) (ob : Addr) (p1 : Int32) (u_size_ob : Value) (h0 : Heap) (n0 : Nat) (Z0 : n0 ≤ h0.size) (hc5 : ¬ (p1 < (0 : Int32))) (F_size_ob : Fld Z h0 ob "com/example/sortition/sortition/Slots" "size" "I" u_size_ob) (E_ob : Exa Z h0 ob "com/example/sortition/sortition/Slots") (g_ob : n0 ≤ ob) :
    MetFree l (⟨"com/example/sortition/sortition/Slots", "<init>", "(I)V"⟩ : MethodName) (head1 (Jvm.Cond.code (⟨"com/example/sortition/sortition/Slots", "<init>", "(I)V"⟩ : MethodName) prog_48_method_1_code 2 none :: ws) ({ frames := 2, cells := 0, slots := 0, locals := 24 } : Room)) (fun a U => a = #[(.ref ob), (.int p1)] ∧ Z.Warmed39 U.vm ∧ U.heap = h0) (fun _ _ _ _ _ => True) (fun _ U o U' => ∃ v L, o = .returned v ∧ Q_rmSl Z ob p1 u_size_ob h0 n0 v U'.heap L ∧ FrameEnd U o U' L ({ frames := 2, cells := 0, slots := 0, locals := 24 } : Room).cells ({ frames := 2, cells := 0, slots := 0, locals := 24 } : Room).slots) := by
  refine MetFree.of_bodySF (plainFor_of_name pn_4) hisR ?_
  intro p e s m args below meth c s₁ Bd hml0 hP hK
  obtain ⟨rfl, hZ, hh⟩ := hP
  have hx := Bd.exec
  have hby := Bd.bytes
  have hml : c.maxLocals = 2 := hml0
  have hown : s.vm.findClass "com/example/sortition/sortition/Slots" = some m.cls := findClass_of_methodNamed Bd.named
  have hnm := (name_of_methodNamed Bd.named Bd.method).1
  have X0 : Stand p l e ({ frames := 2, cells := 0, slots := 0, locals := 24 } : Room) s m #[(.ref ob), (.int p1)] below meth c s₁ [] 0 0 := Stand.of_body Bd
  have e0 : s₁.heap = h0 := by rw [← hh, Bd.state]; rfl
  have N0 := Fr.nil n0
  have pre0 : ∀ t, Steps p.tables e below (s₁.setTop (mkF m 0 #[.val (.ref ob), .val (.int p1)] [])) t → Steps p.tables e below (s₁.setTop (entryFrame m #[(.ref ob), (.int p1)] 2)) t := fun t k => castTop (ef_rmSl m ob p1) k
  obtain ⟨_, _, ⟨T1, L1, k1, n1⟩, -, X1, ⟨Lc1, hQ1, l1, y1, z1⟩, st1⟩ := X0.specialBack hx (y := (⟨"java/lang/Record", "<init>", "()V"⟩ : MethodName)) rfl hown (mvT hZ (ow hw 6 rfl)) (mvT hZ (ow hw 7 rfl)) (mvT hZ (ow hw 10 rfl)) (by decide) (backOf (W := 0) (rmR l Z a0 hw [] ob h0 n0 Z0) hZ (ow hw 10 rfl) (ow hw 9 rfl) (by decide) (by decide)) (g := (mkF m 1 #[.val (.ref ob), .val (.int p1)] [(.ref ob)])) rfl (by rw [hml]; rfl) (Steps.refl _) (a := ob) (argsL := []) (rest := []) (lenOf pd_0 rfl) rfl (by show 2 * 0 + _ ≤ _; exact Nat.le_of_eq rfl) (hb hby d4_1) (fun _ _ => ⟨rfl, e0, (by decide : 0 + 0 ≤ _), (by decide : 0 + 0 ≤ _)⟩)
  dsimp only [Pt.U, Pt.locs, Pt.cells, Pt.slots] at X1 l1 y1 z1 st1 hQ1
  subst l1 y1 z1
  obtain ⟨rfl, Nq1, e1⟩ := hQ1
  have N1 := Fr.app N0 Nq1
  obtain ⟨T2, h2, X2, e2, W2, st2⟩ := putF X1 hx hZ hown (host := "") (Or.inl (ow hw 14 rfl)) Via.refl e1 F_size_ob E_ob (Or.inr ⟨(ow hw 15 rfl), rfl, hnm⟩) (ow hw 1 rfl) (ty := .int) (by decide) rfl rfl (g := (mkF m 24 #[.val (.ref ob), .val (.int p1)] [(.int p1), (.ref ob)])) rfl rfl (hb hby d4_24)
  have Fw2 := F_size_ob.same W2
  have N2 := Fr.snoc X2 N1 g_ob
  have f3 : Exa Z h2 ob "com/example/sortition/sortition/Slots" := (E_ob.wr W2)
  obtain ⟨fs, hr, hrun, hended, hW, hsame⟩ := X2.leave (v := none) (fun _ => rfl)
  refine ⟨_, _, pre0 _ ?_, hrun, hended, _, _, rfl, ?_, ⟨_, rfl⟩, hW, hsame.mono (by decide) (by decide)⟩
  · show Steps p.tables e below (s₁.setTop (mkF m 0 #[.val (.ref ob), .val (.int p1)] [])) _
    refine XS.aloadN X0.here hx rfl (hb hby d4_0) rfl rfl ?_
    show Steps p.tables e below (s₁.setTop (mkF m 1 #[.val (.ref ob), .val (.int p1)] [(.ref ob)])) _
    refine st1.trans ?_
    show Steps p.tables e below (T1.setTop (mkF m 4 #[.val (.ref ob), .val (.int p1)] [])) _
    refine XS.iloadN X1.here hx rfl (hb hby d4_4) rfl ?_
    show Steps p.tables e below (T1.setTop (mkF m 5 #[.val (.ref ob), .val (.int p1)] [(.int p1)])) _
    refine XS.ifYes X1.here hx rfl (pc0 := 5) (pc' := 22) rfl (hb hby d4_5) rfl ((if0 _ _).trans (flt hc5).2.1) (by decide) (by decide) ?_
    show Steps p.tables e below (T1.setTop (mkF m 22 #[.val (.ref ob), .val (.int p1)] [])) _
    refine XS.aloadN X1.here hx rfl (hb hby d4_22) rfl rfl ?_
    show Steps p.tables e below (T1.setTop (mkF m 23 #[.val (.ref ob), .val (.int p1)] [(.ref ob)])) _
    refine XS.iloadN X1.here hx rfl (hb hby d4_23) rfl ?_
    show Steps p.tables e below (T1.setTop (mkF m 24 #[.val (.ref ob), .val (.int p1)] [(.int p1), (.ref ob)])) _
    refine st2 _ ?_
    show Steps p.tables e below (T2.setTop (mkF m 27 #[.val (.ref ob), .val (.int p1)] [])) _
    exact X2.returnOut hx Bd.returns (hb hby d4_27) hr
  · show Q_rmSl Z ob p1 u_size_ob h0 n0 _ T2.heap _
    rw [e2]
    exact ⟨rfl, N2, ((Keep.refl h0 [ob]).wr W2 (Or.inl (List.mem_of_getElem? (i := 0) rfl))), f3, Fw2⟩
theorem d5_0 : decode jdk_22_method_1_code 0 = .ok (.aload_n 0, 1) := by decide +kernel
theorem d5_1 : decode jdk_22_method_1_code 1 = .ok (.invokespecial 1, 3) := by decide +kernel
theorem d5_4 : decode jdk_22_method_1_code 4 = .ok (.return_, 1) := by decide +kernel
theorem pn_5 : plainName "java/util/AbstractCollection" = true := by first | (simp [plainName, overriddenIn]; done) | decide +kernel
def Q_rmAC (Z : State) (ob : Addr) (h0 : Heap) (n0 : Nat) (v : Option Value) (h : Heap) (L : List Loc) : Prop := v = none ∧ Fr n0 L ∧ h = h0
theorem ef_rmAC (m : MethodId) (ob : Addr) : entryFrame m #[(.ref ob)] 1 = mkF m 0 #[.val (.ref ob)] [] := by first | (simp [entryFrame, mkF, argsToLocals, Value.category]; done) | rfl
set_option maxRecDepth 65536 in
set_option maxHeartbeats 40000000 in
theorem rmAC (l : Launch) (Z : State) (a0 : Array Value) (hw : ∀ d ∈ tables_1, d.before a0 Z = true) (ws : List Jvm.Cond) (ob : Addr) (h0 : Heap) (n0 : Nat) (Z0 : n0 ≤ h0.size) :
    MetFree l (⟨"java/util/AbstractCollection", "<init>", "()V"⟩ : MethodName) (head1 (Jvm.Cond.code (⟨"java/util/AbstractCollection", "<init>", "()V"⟩ : MethodName) jdk_22_method_1_code 1 none :: ws) ({ frames := 1, cells := 0, slots := 0, locals := 12 } : Room)) (fun a U => a = #[(.ref ob)] ∧ Z.Warmed39 U.vm ∧ U.heap = h0) (fun _ _ _ _ _ => True) (fun _ U o U' => ∃ v L, o = .returned v ∧ Q_rmAC Z ob h0 n0 v U'.heap L ∧ FrameEnd U o U' L ({ frames := 1, cells := 0, slots := 0, locals := 12 } : Room).cells ({ frames := 1, cells := 0, slots := 0, locals := 12 } : Room).slots) := by
  refine MetFree.of_bodySF (plainFor_of_name pn_5) hisR ?_
  intro p e s m args below meth c s₁ Bd hml0 hP hK
  obtain ⟨rfl, hZ, hh⟩ := hP
  have hx := Bd.exec
  have hby := Bd.bytes
  have hml : c.maxLocals = 1 := hml0
  have hown : s.vm.findClass "java/util/AbstractCollection" = some m.cls := findClass_of_methodNamed Bd.named
  have hnm := (name_of_methodNamed Bd.named Bd.method).1
  have X0 : Stand p l e ({ frames := 1, cells := 0, slots := 0, locals := 12 } : Room) s m #[(.ref ob)] below meth c s₁ [] 0 0 := Stand.of_body Bd
  have e0 : s₁.heap = h0 := by rw [← hh, Bd.state]; rfl
  have N0 := Fr.nil n0
  have pre0 : ∀ t, Steps p.tables e below (s₁.setTop (mkF m 0 #[.val (.ref ob)] [])) t → Steps p.tables e below (s₁.setTop (entryFrame m #[(.ref ob)] 1)) t := fun t k => castTop (ef_rmAC m ob) k
  obtain ⟨T1, X1, e1, st1⟩ := initO X0 hx hZ hown (ow hw 67 rfl) (ow hw 12 rfl) (ow hw 13 rfl) e0 (g := (mkF m 1 #[.val (.ref ob)] [(.ref ob)])) rfl (by rw [hml]; rfl) rfl (hb hby d5_1) (by decide) (W := 0) (by show 2 * 0 + _ ≤ _; exact Nat.le_of_eq rfl) (by decide)
  obtain ⟨fs, hr, hrun, hended, hW, hsame⟩ := X1.leave (v := none) (fun _ => rfl)
  refine ⟨_, _, pre0 _ ?_, hrun, hended, _, _, rfl, ?_, ⟨_, rfl⟩, hW, hsame.mono (by decide) (by decide)⟩
  · show Steps p.tables e below (s₁.setTop (mkF m 0 #[.val (.ref ob)] [])) _
    refine XS.aloadN X0.here hx rfl (hb hby d5_0) rfl rfl ?_
    show Steps p.tables e below (s₁.setTop (mkF m 1 #[.val (.ref ob)] [(.ref ob)])) _
    refine st1 _ ?_
    show Steps p.tables e below (T1.setTop (mkF m 4 #[.val (.ref ob)] [])) _
    exact X1.returnOut hx Bd.returns (hb hby d5_4) hr
  · show Q_rmAC Z ob h0 n0 _ T1.heap _
    rw [e1]
    exact ⟨rfl, N0, rfl⟩
theorem d6_0 : decode jdk_39_method_1_code 0 = .ok (.aload_n 0, 1) := by decide +kernel
theorem d6_1 : decode jdk_39_method_1_code 1 = .ok (.invokespecial 1, 3) := by decide +kernel
theorem d6_4 : decode jdk_39_method_1_code 4 = .ok (.aload_n 0, 1) := by decide +kernel
theorem d6_5 : decode jdk_39_method_1_code 5 = .ok (.iconst 0, 1) := by decide +kernel
theorem d6_6 : decode jdk_39_method_1_code 6 = .ok (.putfield 7, 3) := by decide +kernel
theorem d6_9 : decode jdk_39_method_1_code 9 = .ok (.return_, 1) := by decide +kernel
theorem pn_6 : plainName "java/util/AbstractList" = true := by first | (simp [plainName, overriddenIn]; done) | decide +kernel
def Q_rmAB (Z : State) (ob : Addr) (u_ed : Value) (u_sz : Value) (u_modCount_ob : Value) (h0 : Heap) (n0 : Nat) (v : Option Value) (h : Heap) (L : List Loc) : Prop := v = none ∧ Fr n0 L ∧ Keep h0 h [ob] ∧ Exa Z h ob "java/util/ArrayList" ∧ Fld Z h ob "java/util/AbstractList" "modCount" "I" (.int (0 : Int32)) ∧ Fld Z h ob "java/util/ArrayList" "elementData" "[Ljava/lang/Object;" u_ed ∧ Fld Z h ob "java/util/ArrayList" "size" "I" u_sz
theorem ef_rmAB (m : MethodId) (ob : Addr) : entryFrame m #[(.ref ob)] 1 = mkF m 0 #[.val (.ref ob)] [] := by first | (simp [entryFrame, mkF, argsToLocals, Value.category]; done) | rfl
set_option maxRecDepth 65536 in
set_option maxHeartbeats 40000000 in
theorem rmAB (l : Launch) (Z : State) (a0 : Array Value) (hw : ∀ d ∈ tables_1, d.before a0 Z = true) (ws : List Jvm.Cond) (ob : Addr) (u_ed : Value) (u_sz : Value) (u_modCount_ob : Value) (h0 : Heap) (n0 : Nat) (Z0 : n0 ≤ h0.size) (E_ob : Exa Z h0 ob "java/util/ArrayList") (F_elementData_ob : Fld Z h0 ob "java/util/ArrayList" "elementData" "[Ljava/lang/Object;" u_ed) (F_size_ob : Fld Z h0 ob "java/util/ArrayList" "size" "I" u_sz) (F_modCount_ob : Fld Z h0 ob "java/util/AbstractList" "modCount" "I" u_modCount_ob) (g_ob : n0 ≤ ob) :
    MetFree l (⟨"java/util/AbstractList", "<init>", "()V"⟩ : MethodName) (head1 (Jvm.Cond.code (⟨"java/util/AbstractList", "<init>", "()V"⟩ : MethodName) jdk_39_method_1_code 1 none :: ws) ({ frames := 2, cells := 0, slots := 0, locals := 24 } : Room)) (fun a U => a = #[(.ref ob)] ∧ Z.Warmed39 U.vm ∧ U.heap = h0) (fun _ _ _ _ _ => True) (fun _ U o U' => ∃ v L, o = .returned v ∧ Q_rmAB Z ob u_ed u_sz u_modCount_ob h0 n0 v U'.heap L ∧ FrameEnd U o U' L ({ frames := 2, cells := 0, slots := 0, locals := 24 } : Room).cells ({ frames := 2, cells := 0, slots := 0, locals := 24 } : Room).slots) := by
  refine MetFree.of_bodySF (plainFor_of_name pn_6) hisR ?_
  intro p e s m args below meth c s₁ Bd hml0 hP hK
  obtain ⟨rfl, hZ, hh⟩ := hP
  have hx := Bd.exec
  have hby := Bd.bytes
  have hml : c.maxLocals = 1 := hml0
  have hown : s.vm.findClass "java/util/AbstractList" = some m.cls := findClass_of_methodNamed Bd.named
  have hnm := (name_of_methodNamed Bd.named Bd.method).1
  have X0 : Stand p l e ({ frames := 2, cells := 0, slots := 0, locals := 24 } : Room) s m #[(.ref ob)] below meth c s₁ [] 0 0 := Stand.of_body Bd
  have e0 : s₁.heap = h0 := by rw [← hh, Bd.state]; rfl
  have N0 := Fr.nil n0
  have pre0 : ∀ t, Steps p.tables e below (s₁.setTop (mkF m 0 #[.val (.ref ob)] [])) t → Steps p.tables e below (s₁.setTop (entryFrame m #[(.ref ob)] 1)) t := fun t k => castTop (ef_rmAB m ob) k
  obtain ⟨_, _, ⟨T1, L1, k1, n1⟩, -, X1, ⟨Lc1, hQ1, l1, y1, z1⟩, st1⟩ := X0.specialBack hx (y := (⟨"java/util/AbstractCollection", "<init>", "()V"⟩ : MethodName)) rfl hown (mvT hZ (ow hw 61 rfl)) (mvT hZ (ow hw 62 rfl)) (mvT hZ (ow hw 66 rfl)) (by decide) (backOf (W := 0) (rmAC l Z a0 hw [] ob h0 n0 Z0) hZ (ow hw 66 rfl) (ow hw 65 rfl) (by decide) (by decide)) (g := (mkF m 1 #[.val (.ref ob)] [(.ref ob)])) rfl (by rw [hml]; rfl) (Steps.refl _) (a := ob) (argsL := []) (rest := []) (lenOf pd_0 rfl) rfl (by show 2 * 0 + _ ≤ _; exact Nat.le_of_eq rfl) (hb hby d6_1) (fun _ _ => ⟨rfl, e0, (by decide : 0 + 0 ≤ _), (by decide : 0 + 0 ≤ _)⟩)
  dsimp only [Pt.U, Pt.locs, Pt.cells, Pt.slots] at X1 l1 y1 z1 st1 hQ1
  subst l1 y1 z1
  obtain ⟨rfl, Nq1, e1⟩ := hQ1
  have N1 := Fr.app N0 Nq1
  obtain ⟨T2, h2, X2, e2, W2, st2⟩ := putF X1 hx hZ hown (host := "") (Or.inl (ow hw 68 rfl)) Via.refl e1 F_modCount_ob E_ob (Or.inl (ow hw 69 rfl)) (ow hw 50 rfl) (ty := .int) (by decide) rfl rfl (g := (mkF m 6 #[.val (.ref ob)] [(.int (0 : Int32)), (.ref ob)])) rfl rfl (hb hby d6_6)
  have Fw2 := F_modCount_ob.same W2
  have N2 := Fr.snoc X2 N1 g_ob
  have f3 : Exa Z h2 ob "java/util/ArrayList" := (E_ob.wr W2)
  have f4 : Fld Z h2 ob "java/util/ArrayList" "elementData" "[Ljava/lang/Object;" u_ed := (F_elementData_ob.other W2 (Or.inr (slot_ne (Or.inl (ow hw 72 rfl)) (Or.inl (ow hw 69 rfl)) (by decide) (t := (.array (.object "java/lang/Object"))) (t' := .int) (by decide) (by decide))))
  have f5 : Fld Z h2 ob "java/util/ArrayList" "size" "I" u_sz := (F_size_ob.other W2 (Or.inr (slot_ne (Or.inl (ow hw 81 rfl)) (Or.inl (ow hw 69 rfl)) (by decide) (t := .int) (t' := .int) (by decide) (by decide))))
  obtain ⟨fs, hr, hrun, hended, hW, hsame⟩ := X2.leave (v := none) (fun _ => rfl)
  refine ⟨_, _, pre0 _ ?_, hrun, hended, _, _, rfl, ?_, ⟨_, rfl⟩, hW, hsame.mono (by decide) (by decide)⟩
  · show Steps p.tables e below (s₁.setTop (mkF m 0 #[.val (.ref ob)] [])) _
    refine XS.aloadN X0.here hx rfl (hb hby d6_0) rfl rfl ?_
    show Steps p.tables e below (s₁.setTop (mkF m 1 #[.val (.ref ob)] [(.ref ob)])) _
    refine st1.trans ?_
    show Steps p.tables e below (T1.setTop (mkF m 4 #[.val (.ref ob)] [])) _
    refine XS.aloadN X1.here hx rfl (hb hby d6_4) rfl rfl ?_
    show Steps p.tables e below (T1.setTop (mkF m 5 #[.val (.ref ob)] [(.ref ob)])) _
    refine XS.iconst X1.here hx rfl (hb hby d6_5) ?_
    show Steps p.tables e below (T1.setTop (mkF m 6 #[.val (.ref ob)] [(.int (0 : Int32)), (.ref ob)])) _
    refine st2 _ ?_
    show Steps p.tables e below (T2.setTop (mkF m 9 #[.val (.ref ob)] [])) _
    exact X2.returnOut hx Bd.returns (hb hby d6_9) hr
  · show Q_rmAB Z ob u_ed u_sz u_modCount_ob h0 n0 _ T2.heap _
    rw [e2]
    exact ⟨rfl, N2, ((Keep.refl h0 [ob]).wr W2 (Or.inl (List.mem_of_getElem? (i := 0) rfl))), f3, Fw2, f4, f5⟩
theorem d7_0 : decode jdk_38_method_2_code 0 = .ok (.aload_n 0, 1) := by decide +kernel
theorem d7_1 : decode jdk_38_method_2_code 1 = .ok (.invokespecial 1, 3) := by decide +kernel
theorem d7_4 : decode jdk_38_method_2_code 4 = .ok (.aload_n 0, 1) := by decide +kernel
theorem d7_5 : decode jdk_38_method_2_code 5 = .ok (.getstatic 39, 3) := by decide +kernel
theorem d7_8 : decode jdk_38_method_2_code 8 = .ok (.putfield 9, 3) := by decide +kernel
theorem d7_11 : decode jdk_38_method_2_code 11 = .ok (.return_, 1) := by decide +kernel
theorem pn_7 : plainName "java/util/ArrayList" = true := by first | (simp [plainName, overriddenIn]; done) | decide +kernel
def Q_rmAL (Z : State) (ob : Addr) (de : Addr) (u_mc : Value) (u_ed : Value) (h0 : Heap) (n0 : Nat) (v : Option Value) (h : Heap) (L : List Loc) : Prop := v = none ∧ Fr n0 L ∧ Keep h0 h [ob] ∧ Exa Z h ob "java/util/ArrayList" ∧ Fld Z h ob "java/util/AbstractList" "modCount" "I" (.int (0 : Int32)) ∧ Fld Z h ob "java/util/ArrayList" "elementData" "[Ljava/lang/Object;" (.ref de) ∧ Fld Z h ob "java/util/ArrayList" "size" "I" (.int (0 : Int32))
theorem ef_rmAL (m : MethodId) (ob : Addr) : entryFrame m #[(.ref ob)] 1 = mkF m 0 #[.val (.ref ob)] [] := by first | (simp [entryFrame, mkF, argsToLocals, Value.category]; done) | rfl
set_option maxRecDepth 65536 in
set_option maxHeartbeats 40000000 in
theorem rmAL (l : Launch) (Z : State) (a0 : Array Value) (hw : ∀ d ∈ tables_1, d.before a0 Z = true) (ws : List Jvm.Cond) (ob : Addr) (de : Addr) (u_mc : Value) (u_ed : Value) (h0 : Heap) (n0 : Nat) (Z0 : n0 ≤ h0.size) (E_ob : Exa Z h0 ob "java/util/ArrayList") (F_modCount_ob : Fld Z h0 ob "java/util/AbstractList" "modCount" "I" u_mc) (F_elementData_ob : Fld Z h0 ob "java/util/ArrayList" "elementData" "[Ljava/lang/Object;" u_ed) (S_DE : Sta Z h0 "java/util/ArrayList" "DEFAULTCAPACITY_EMPTY_ELEMENTDATA" "[Ljava/lang/Object;" (.ref de)) (F_size_ob : Fld Z h0 ob "java/util/ArrayList" "size" "I" (.int (0 : Int32))) (g_ob : n0 ≤ ob) :
    MetFree l (⟨"java/util/ArrayList", "<init>", "()V"⟩ : MethodName) (head1 (Jvm.Cond.code (⟨"java/util/ArrayList", "<init>", "()V"⟩ : MethodName) jdk_38_method_2_code 1 none :: ws) ({ frames := 3, cells := 0, slots := 0, locals := 36 } : Room)) (fun a U => a = #[(.ref ob)] ∧ Z.Warmed39 U.vm ∧ U.heap = h0) (fun _ _ _ _ _ => True) (fun _ U o U' => ∃ v L, o = .returned v ∧ Q_rmAL Z ob de u_mc u_ed h0 n0 v U'.heap L ∧ FrameEnd U o U' L ({ frames := 3, cells := 0, slots := 0, locals := 36 } : Room).cells ({ frames := 3, cells := 0, slots := 0, locals := 36 } : Room).slots) := by
  refine MetFree.of_bodySF (plainFor_of_name pn_7) hisR ?_
  intro p e s m args below meth c s₁ Bd hml0 hP hK
  obtain ⟨rfl, hZ, hh⟩ := hP
  have hx := Bd.exec
  have hby := Bd.bytes
  have hml : c.maxLocals = 1 := hml0
  have hown : s.vm.findClass "java/util/ArrayList" = some m.cls := findClass_of_methodNamed Bd.named
  have hnm := (name_of_methodNamed Bd.named Bd.method).1
  have X0 : Stand p l e ({ frames := 3, cells := 0, slots := 0, locals := 36 } : Room) s m #[(.ref ob)] below meth c s₁ [] 0 0 := Stand.of_body Bd
  have e0 : s₁.heap = h0 := by rw [← hh, Bd.state]; rfl
  have N0 := Fr.nil n0
  have pre0 : ∀ t, Steps p.tables e below (s₁.setTop (mkF m 0 #[.val (.ref ob)] [])) t → Steps p.tables e below (s₁.setTop (entryFrame m #[(.ref ob)] 1)) t := fun t k => castTop (ef_rmAL m ob) k
  obtain ⟨_, _, ⟨T1, L1, k1, n1⟩, -, X1, ⟨Lc1, hQ1, l1, y1, z1⟩, st1⟩ := X0.specialBack hx (y := (⟨"java/util/AbstractList", "<init>", "()V"⟩ : MethodName)) rfl hown (mvT hZ (ow hw 55 rfl)) (mvT hZ (ow hw 56 rfl)) (mvT hZ (ow hw 60 rfl)) (by decide) (backOf (W := 0) (rmAB l Z a0 hw [] ob u_ed (.int (0 : Int32)) u_mc h0 n0 Z0 E_ob F_elementData_ob F_size_ob F_modCount_ob g_ob) hZ (ow hw 60 rfl) (ow hw 59 rfl) (by decide) (by decide)) (g := (mkF m 1 #[.val (.ref ob)] [(.ref ob)])) rfl (by rw [hml]; rfl) (Steps.refl _) (a := ob) (argsL := []) (rest := []) (lenOf pd_0 rfl) rfl (by show 2 * 0 + _ ≤ _; exact Nat.le_of_eq rfl) (hb hby d7_1) (fun _ _ => ⟨rfl, e0, (by decide : 0 + 0 ≤ _), (by decide : 0 + 0 ≤ _)⟩)
  dsimp only [Pt.U, Pt.locs, Pt.cells, Pt.slots] at X1 l1 y1 z1 st1 hQ1
  subst l1 y1 z1
  obtain ⟨rfl, Nq1, Kp1, Fq1_0, Fq1_1, Fq1_2, Fq1_3⟩ := hQ1
  have N1 := Fr.app N0 Nq1
  have f3 : Sta Z T1.heap "java/util/ArrayList" "DEFAULTCAPACITY_EMPTY_ELEMENTDATA" "[Ljava/lang/Object;" (.ref de) := (Sta_keep S_DE Kp1 (nsS E_ob.nostat ns0))
  obtain ⟨T2, X2, e2, st2⟩ := getS2 X1 hx hZ hown (host := "") (Or.inl (ow hw 70 rfl)) Via.refl rfl f3 (g := (mkF m 5 #[.val (.ref ob)] [(.ref ob)])) rfl (hb hby d7_5)
  obtain ⟨T4, h4, X4, e4, W4, st4⟩ := putF X2 hx hZ hown (host := "") (Or.inl (ow hw 71 rfl)) Via.refl e2 Fq1_2 Fq1_0 (Or.inl (ow hw 72 rfl)) (ow hw 50 rfl) (ty := (.array (.object "java/lang/Object"))) (by decide) rfl rfl (g := (mkF m 8 #[.val (.ref ob)] [(.ref de), (.ref ob)])) rfl rfl (hb hby d7_8)
  have Fw4 := Fq1_2.same W4
  have N4 := Fr.snoc X4 N1 g_ob
  have f5 : Exa Z h4 ob "java/util/ArrayList" := (Fq1_0.wr W4)
  have f6 : Fld Z h4 ob "java/util/AbstractList" "modCount" "I" (.int (0 : Int32)) := (Fq1_1.other W4 (Or.inr (slot_ne (Or.inl (ow hw 69 rfl)) (Or.inl (ow hw 72 rfl)) (by decide) (t := .int) (t' := (.array (.object "java/lang/Object"))) (by decide) (by decide))))
  have f7 : Fld Z h4 ob "java/util/ArrayList" "size" "I" (.int (0 : Int32)) := (Fq1_3.other W4 (Or.inr (slot_ne (Or.inl (ow hw 81 rfl)) (Or.inl (ow hw 72 rfl)) (by decide) (t := .int) (t' := (.array (.object "java/lang/Object"))) (by decide) (by decide))))
  obtain ⟨fs, hr, hrun, hended, hW, hsame⟩ := X4.leave (v := none) (fun _ => rfl)
  refine ⟨_, _, pre0 _ ?_, hrun, hended, _, _, rfl, ?_, ⟨_, rfl⟩, hW, hsame.mono (by decide) (by decide)⟩
  · show Steps p.tables e below (s₁.setTop (mkF m 0 #[.val (.ref ob)] [])) _
    refine XS.aloadN X0.here hx rfl (hb hby d7_0) rfl rfl ?_
    show Steps p.tables e below (s₁.setTop (mkF m 1 #[.val (.ref ob)] [(.ref ob)])) _
    refine st1.trans ?_
    show Steps p.tables e below (T1.setTop (mkF m 4 #[.val (.ref ob)] [])) _
    refine XS.aloadN X1.here hx rfl (hb hby d7_4) rfl rfl ?_
    show Steps p.tables e below (T1.setTop (mkF m 5 #[.val (.ref ob)] [(.ref ob)])) _
    refine st2 _ ?_
    show Steps p.tables e below (T2.setTop (mkF m 8 #[.val (.ref ob)] [(.ref de), (.ref ob)])) _
    refine st4 _ ?_
    show Steps p.tables e below (T4.setTop (mkF m 11 #[.val (.ref ob)] [])) _
    exact X4.returnOut hx Bd.returns (hb hby d7_11) hr
  · show Q_rmAL Z ob de u_mc u_ed h0 n0 _ T4.heap _
    rw [e4]
    exact ⟨rfl, N4, (((Keep.refl h0 [ob]).trans Kp1 (allS (Or.inl (List.mem_of_getElem? (i := 0) rfl)) all0)).wr W4 (Or.inl (List.mem_of_getElem? (i := 0) rfl))), f5, f6, Fw4, f7⟩
theorem d8_0 : decode jdk_38_method_8_code 0 = .ok (.aload_n 0, 1) := by decide +kernel
theorem d8_1 : decode jdk_38_method_8_code 1 = .ok (.getfield 48, 3) := by decide +kernel
theorem d8_4 : decode jdk_38_method_8_code 4 = .ok (.ireturn, 1) := by decide +kernel
def Q_rmSz (Z : State) (ob : Addr) (w_size_ob : Int32) (h0 : Heap) (n0 : Nat) (v : Option Value) (h : Heap) (L : List Loc) : Prop := v = some (.int w_size_ob) ∧ Fr n0 L ∧ h = h0
theorem ef_rmSz (m : MethodId) (ob : Addr) : entryFrame m #[(.ref ob)] 1 = mkF m 0 #[.val (.ref ob)] [] := by first | (simp [entryFrame, mkF, argsToLocals, Value.category]; done) | rfl
set_option maxRecDepth 65536 in
set_option maxHeartbeats 40000000 in
theorem rmSz (l : Launch) (Z : State) (a0 : Array Value) (hw : ∀ d ∈ tables_1, d.before a0 Z = true) (ws : List Jvm.Cond) (ob : Addr) (w_size_ob : Int32) (h0 : Heap) (n0 : Nat) (Z0 : n0 ≤ h0.size) (F_size_ob : Fld Z h0 ob "java/util/ArrayList" "size" "I" (.int w_size_ob)) :
    MetFree l (⟨"java/util/ArrayList", "size", "()I"⟩ : MethodName) (head1 (Jvm.Cond.code (⟨"java/util/ArrayList", "size", "()I"⟩ : MethodName) jdk_38_method_8_code 1 (some .int) :: ws) ({ frames := 0, cells := 0, slots := 0, locals := 0 } : Room)) (fun a U => a = #[(.ref ob)] ∧ Z.Warmed39 U.vm ∧ U.heap = h0) (fun _ _ _ _ _ => True) (fun _ U o U' => ∃ v L, o = .returned v ∧ Q_rmSz Z ob w_size_ob h0 n0 v U'.heap L ∧ FrameEnd U o U' L ({ frames := 0, cells := 0, slots := 0, locals := 0 } : Room).cells ({ frames := 0, cells := 0, slots := 0, locals := 0 } : Room).slots) := by
  refine MetFree.of_bodySF (plainFor_of_name pn_7) hisR ?_
  intro p e s m args below meth c s₁ Bd hml0 hP hK
  obtain ⟨rfl, hZ, hh⟩ := hP
  have hx := Bd.exec
  have hby := Bd.bytes
  have hml : c.maxLocals = 1 := hml0
  have hown : s.vm.findClass "java/util/ArrayList" = some m.cls := findClass_of_methodNamed Bd.named
  have hnm := (name_of_methodNamed Bd.named Bd.method).1
  have X0 : Stand p l e ({ frames := 0, cells := 0, slots := 0, locals := 0 } : Room) s m #[(.ref ob)] below meth c s₁ [] 0 0 := Stand.of_body Bd
  have e0 : s₁.heap = h0 := by rw [← hh, Bd.state]; rfl
  have N0 := Fr.nil n0
  have pre0 : ∀ t, Steps p.tables e below (s₁.setTop (mkF m 0 #[.val (.ref ob)] [])) t → Steps p.tables e below (s₁.setTop (entryFrame m #[(.ref ob)] 1)) t := fun t k => castTop (ef_rmSz m ob) k
  obtain ⟨T1, X1, e1, st1⟩ := getF X0 hx hZ hown (host := "") (Or.inl (ow hw 80 rfl)) Via.refl e0 F_size_ob (g := (mkF m 1 #[.val (.ref ob)] [(.ref ob)])) rfl rfl (hb hby d8_1)
  obtain ⟨fs, hr, hrun, hended, hW, hsame⟩ := X1.leave (v := some (.int w_size_ob)) (fun h => by rw [Bd.returns] at h; cases h)
  refine ⟨_, _, pre0 _ ?_, hrun, hended, _, _, rfl, ?_, ⟨_, rfl⟩, hW, hsame.mono (by decide) (by decide)⟩
  · show Steps p.tables e below (s₁.setTop (mkF m 0 #[.val (.ref ob)] [])) _
    refine XS.aloadN X0.here hx rfl (hb hby d8_0) rfl rfl ?_
    show Steps p.tables e below (s₁.setTop (mkF m 1 #[.val (.ref ob)] [(.ref ob)])) _
    refine st1 _ ?_
    show Steps p.tables e below (T1.setTop (mkF m 4 #[.val (.ref ob)] [(.int w_size_ob)])) _
    exact retI X1 hx Bd.returns (hb hby d8_4) hr
  · show Q_rmSz Z ob w_size_ob h0 n0 _ T1.heap _
    rw [e1]
    exact ⟨rfl, N0, rfl⟩
theorem d9_0 : decode jdk_29_method_65_code 0 = .ok (.iload_n 0, 1) := by decide +kernel
theorem d9_1 : decode jdk_29_method_65_code 1 = .ok (.iload_n 1, 1) := by decide +kernel
theorem d9_2 : decode jdk_29_method_65_code 2 = .ok (.if_icmp .lt 7, 3) := by decide +kernel
theorem d9_5 : decode jdk_29_method_65_code 5 = .ok (.iload_n 0, 1) := by decide +kernel
theorem d9_6 : decode jdk_29_method_65_code 6 = .ok (.goto 4, 3) := by decide +kernel
theorem d9_10 : decode jdk_29_method_65_code 10 = .ok (.ireturn, 1) := by decide +kernel
def Q_rmax_f (Z : State) (p0 : Int32) (p1 : Int32) (h0 : Heap) (n0 : Nat) (v : Option Value) (h : Heap) (L : List Loc) : Prop := v = some (.int p0) ∧ Fr n0 L ∧ h = h0
theorem ef_rmax_f (m : MethodId) (p0 : Int32) (p1 : Int32) : entryFrame m #[(.int p0), (.int p1)] 2 = mkF m 0 #[.val (.int p0), .val (.int p1)] [] := by first | (simp [entryFrame, mkF, argsToLocals, Value.category]; done) | rfl
set_option maxRecDepth 65536 in
set_option maxHeartbeats 40000000 in
theorem rmax_f (l : Launch) (Z : State) (a0 : Array Value) (hw : ∀ d ∈ tables_1, d.before a0 Z = true) (ws : List Jvm.Cond) (p0 : Int32) (p1 : Int32) (h0 : Heap) (n0 : Nat) (Z0 : n0 ≤ h0.size) (hc2 : ¬ (p0 < p1)) :
    MetFree l (⟨"java/lang/Math", "max", "(II)I"⟩ : MethodName) (head1 (Jvm.Cond.code (⟨"java/lang/Math", "max", "(II)I"⟩ : MethodName) jdk_29_method_65_code 2 (some .int) :: ws) ({ frames := 0, cells := 0, slots := 0, locals := 0 } : Room)) (fun a U => a = #[(.int p0), (.int p1)] ∧ Z.Warmed39 U.vm ∧ U.heap = h0) (fun _ _ _ _ _ => True) (fun _ U o U' => ∃ v L, o = .returned v ∧ Q_rmax_f Z p0 p1 h0 n0 v U'.heap L ∧ FrameEnd U o U' L ({ frames := 0, cells := 0, slots := 0, locals := 0 } : Room).cells ({ frames := 0, cells := 0, slots := 0, locals := 0 } : Room).slots) := by
  refine MetFree.of_bodySF (Jvm.Free.JP.mathPlain rfl (by decide +kernel)) hisR ?_
  intro p e s m args below meth c s₁ Bd hml0 hP hK
  obtain ⟨rfl, hZ, hh⟩ := hP
  have hx := Bd.exec
  have hby := Bd.bytes
  have hml : c.maxLocals = 2 := hml0
  have hown : s.vm.findClass "java/lang/Math" = some m.cls := findClass_of_methodNamed Bd.named
  have hnm := (name_of_methodNamed Bd.named Bd.method).1
  have X0 : Stand p l e ({ frames := 0, cells := 0, slots := 0, locals := 0 } : Room) s m #[(.int p0), (.int p1)] below meth c s₁ [] 0 0 := Stand.of_body Bd
  have e0 : s₁.heap = h0 := by rw [← hh, Bd.state]; rfl
  have N0 := Fr.nil n0
  have pre0 : ∀ t, Steps p.tables e below (s₁.setTop (mkF m 0 #[.val (.int p0), .val (.int p1)] [])) t → Steps p.tables e below (s₁.setTop (entryFrame m #[(.int p0), (.int p1)] 2)) t := fun t k => castTop (ef_rmax_f m p0 p1) k
  obtain ⟨fs, hr, hrun, hended, hW, hsame⟩ := X0.leave (v := some (.int p0)) (fun h => by rw [Bd.returns] at h; cases h)
  refine ⟨_, _, pre0 _ ?_, hrun, hended, _, _, rfl, ?_, ⟨_, rfl⟩, hW, hsame.mono (by decide) (by decide)⟩
  · show Steps p.tables e below (s₁.setTop (mkF m 0 #[.val (.int p0), .val (.int p1)] [])) _
    refine XS.iloadN X0.here hx rfl (hb hby d9_0) rfl ?_
    show Steps p.tables e below (s₁.setTop (mkF m 1 #[.val (.int p0), .val (.int p1)] [(.int p0)])) _
    refine XS.iloadN X0.here hx rfl (hb hby d9_1) rfl ?_
    show Steps p.tables e below (s₁.setTop (mkF m 2 #[.val (.int p0), .val (.int p1)] [(.int p1), (.int p0)])) _
    refine XS.icmpNo X0.here hx rfl (hb hby d9_2) rfl (flt hc2).1 ?_
    show Steps p.tables e below (s₁.setTop (mkF m 5 #[.val (.int p0), .val (.int p1)] [])) _
    refine XS.iloadN X0.here hx rfl (hb hby d9_5) rfl ?_
    show Steps p.tables e below (s₁.setTop (mkF m 6 #[.val (.int p0), .val (.int p1)] [(.int p0)])) _
    refine XS.goto X0.here hx rfl (pc0 := 6) (pc' := 10) rfl (hb hby d9_6) (by decide) (by decide) ?_
    show Steps p.tables e below (s₁.setTop (mkF m 10 #[.val (.int p0), .val (.int p1)] [(.int p0)])) _
    exact retI X0 hx Bd.returns (hb hby d9_10) hr
  · show Q_rmax_f Z p0 p1 h0 n0 _ s₁.heap _
    rw [e0]
    exact ⟨rfl, N0, rfl⟩
theorem d10_0 : decode jdk_38_method_6_code 0 = .ok (.aload_n 0, 1) := by decide +kernel
theorem d10_1 : decode jdk_38_method_6_code 1 = .ok (.getfield 9, 3) := by decide +kernel
theorem d10_4 : decode jdk_38_method_6_code 4 = .ok (.arraylength, 1) := by decide +kernel
theorem d10_5 : decode jdk_38_method_6_code 5 = .ok (.istore_n 2, 1) := by decide +kernel
theorem d10_6 : decode jdk_38_method_6_code 6 = .ok (.iload_n 2, 1) := by decide +kernel
theorem d10_7 : decode jdk_38_method_6_code 7 = .ok (.ifCond .gt 13, 3) := by decide +kernel
theorem d10_10 : decode jdk_38_method_6_code 10 = .ok (.aload_n 0, 1) := by decide +kernel
theorem d10_11 : decode jdk_38_method_6_code 11 = .ok (.getfield 9, 3) := by decide +kernel
theorem d10_14 : decode jdk_38_method_6_code 14 = .ok (.getstatic 39, 3) := by decide +kernel
theorem d10_17 : decode jdk_38_method_6_code 17 = .ok (.if_acmp .eq 28, 3) := by decide +kernel
theorem d10_45 : decode jdk_38_method_6_code 45 = .ok (.aload_n 0, 1) := by decide +kernel
theorem d10_46 : decode jdk_38_method_6_code 46 = .ok (.bipush 10, 2) := by decide +kernel
theorem d10_48 : decode jdk_38_method_6_code 48 = .ok (.iload_n 1, 1) := by decide +kernel
theorem d10_49 : decode jdk_38_method_6_code 49 = .ok (.invokestatic 79, 3) := by decide +kernel
theorem pd_3 : parseMethodDescriptor "(II)I" = some ⟨[.int, .int], some .int⟩ := by decide +kernel
theorem d10_52 : decode jdk_38_method_6_code 52 = .ok (.anewarray 7, 3) := by decide +kernel
theorem d10_55 : decode jdk_38_method_6_code 55 = .ok (.dup_x1, 1) := by decide +kernel
theorem d10_56 : decode jdk_38_method_6_code 56 = .ok (.putfield 9, 3) := by decide +kernel
theorem d10_59 : decode jdk_38_method_6_code 59 = .ok (.areturn, 1) := by decide +kernel
def Q_rmG1 (Z : State) (ob : Addr) (de : Addr) (kd : ClassId) (mc : Int32) (h0 : Heap) (n0 : Nat) (v : Option Value) (h : Heap) (L : List Loc) : Prop := ∃ nb : Addr, ∃ ka : ClassId, v = some (.ref nb) ∧ Fr n0 L ∧ h0.size ≤ nb ∧ Keep h0 h [ob] ∧ Exa Z h ob "java/util/ArrayList" ∧ Fld Z h ob "java/util/AbstractList" "modCount" "I" (.int mc) ∧ Fld Z h ob "java/util/ArrayList" "elementData" "[Ljava/lang/Object;" (.ref nb) ∧ Fld Z h ob "java/util/ArrayList" "size" "I" (.int (0 : Int32)) ∧ Arv Z h nb ka (.object "java/lang/Object") (10 : Int32) [.null, .null, .null, .null, .null, .null, .null, .null, .null, .null] .null ∧ Ovr Z ka "java/lang/Object"
theorem ef_rmG1 (m : MethodId) (ob : Addr) : entryFrame m #[(.ref ob), (.int (1 : Int32))] 4 = mkF m 0 #[.val (.ref ob), .val (.int (1 : Int32)), .unset, .unset] [] := by first | (simp [entryFrame, mkF, argsToLocals, Value.category]; done) | rfl
set_option maxRecDepth 65536 in
set_option maxHeartbeats 40000000 in
theorem rmG1 (l : Launch) (Z : State) (a0 : Array Value) (hw : ∀ d ∈ tables_1, d.before a0 Z = true) (ws : List Jvm.Cond) (ob : Addr) (de : Addr) (kd : ClassId) (mc : Int32) (h0 : Heap) (n0 : Nat) (Z0 : n0 ≤ h0.size) (F_modCount_ob : Fld Z h0 ob "java/util/AbstractList" "modCount" "I" (.int mc)) (E_ob : Exa Z h0 ob "java/util/ArrayList") (F_elementData_ob : Fld Z h0 ob "java/util/ArrayList" "elementData" "[Ljava/lang/Object;" (.ref de)) (F_size_ob : Fld Z h0 ob "java/util/ArrayList" "size" "I" (.int (0 : Int32))) (V_de : Arv Z h0 de kd (.object "java/lang/Object") (0 : Int32) [] .null) (S_DE : Sta Z h0 "java/util/ArrayList" "DEFAULTCAPACITY_EMPTY_ELEMENTDATA" "[Ljava/lang/Object;" (.ref de)) (g_ob : n0 ≤ ob) :
    MetFree l (⟨"java/util/ArrayList", "grow", "(I)[Ljava/lang/Object;"⟩ : MethodName) (head1 (Jvm.Cond.code (⟨"java/util/ArrayList", "grow", "(I)[Ljava/lang/Object;"⟩ : MethodName) jdk_38_method_6_code 4 (some (.array (.object "java/lang/Object"))) :: ws) ({ frames := 1, cells := 1, slots := 10, locals := 14 } : Room)) (fun a U => a = #[(.ref ob), (.int (1 : Int32))] ∧ Z.Warmed39 U.vm ∧ U.heap = h0) (fun _ _ _ _ _ => True) (fun _ U o U' => ∃ v L, o = .returned v ∧ Q_rmG1 Z ob de kd mc h0 n0 v U'.heap L ∧ FrameEnd U o U' L ({ frames := 1, cells := 1, slots := 10, locals := 14 } : Room).cells ({ frames := 1, cells := 1, slots := 10, locals := 14 } : Room).slots) := by
  refine MetFree.of_bodySF (plainFor_of_name pn_7) hisR ?_
  intro p e s m args below meth c s₁ Bd hml0 hP hK
  obtain ⟨rfl, hZ, hh⟩ := hP
  have hx := Bd.exec
  have hby := Bd.bytes
  have hml : c.maxLocals = 4 := hml0
  have hown : s.vm.findClass "java/util/ArrayList" = some m.cls := findClass_of_methodNamed Bd.named
  have hnm := (name_of_methodNamed Bd.named Bd.method).1
  have X0 : Stand p l e ({ frames := 1, cells := 1, slots := 10, locals := 14 } : Room) s m #[(.ref ob), (.int (1 : Int32))] below meth c s₁ [] 0 0 := Stand.of_body Bd
  have e0 : s₁.heap = h0 := by rw [← hh, Bd.state]; rfl
  have N0 := Fr.nil n0
  have pre0 : ∀ t, Steps p.tables e below (s₁.setTop (mkF m 0 #[.val (.ref ob), .val (.int (1 : Int32)), .unset, .unset] [])) t → Steps p.tables e below (s₁.setTop (entryFrame m #[(.ref ob), (.int (1 : Int32))] 4)) t := fun t k => castTop (ef_rmG1 m ob) k
  obtain ⟨T1, X1, e1, st1⟩ := getF X0 hx hZ hown (host := "") (Or.inl (ow hw 71 rfl)) Via.refl e0 F_elementData_ob (g := (mkF m 1 #[.val (.ref ob), .val (.int (1 : Int32)), .unset, .unset] [(.ref ob)])) rfl rfl (hb hby d10_1)
  have Vc2 := V_de
  obtain ⟨cl2, Ar2, -, S2, M2, -, -⟩ := Vc2
  obtain ⟨T3, X3, e3, st3⟩ := getF X1 hx hZ hown (host := "") (Or.inl (ow hw 71 rfl)) Via.refl e1 F_elementData_ob (g := (mkF m 11 #[.val (.ref ob), .val (.int (1 : Int32)), .val (.int (0 : Int32)), .unset] [(.ref ob)])) rfl rfl (hb hby d10_11)
  obtain ⟨T4, X4, e4, st4⟩ := getS2 X3 hx hZ hown (host := "") (Or.inl (ow hw 70 rfl)) Via.refl e3 S_DE (g := (mkF m 14 #[.val (.ref ob), .val (.int (1 : Int32)), .val (.int (0 : Int32)), .unset] [(.ref de)])) rfl (hb hby d10_14)
  obtain ⟨_, _, ⟨T5, L5, k5, n5⟩, -, X5, ⟨Lc5, hQ5, l5, y5, z5⟩, st5⟩ := Jvm.LawKit.callS X4 hx (y := (⟨"java/lang/Math", "max", "(II)I"⟩ : MethodName)) hown (mvT hZ (ow hw 97 rfl)) (mvT hZ (ow hw 98 rfl)) (mvT hZ (ow hw 99 rfl)) (mvT hZ (ow hw 100 rfl)) (by decide) (backOf (W := 1) (rmax_f l Z a0 hw [] (10 : Int32) (1 : Int32) h0 n0 Z0 (by first | assumption | decide)) hZ (ow hw 100 rfl) (ow hw 99 rfl) (by decide) (by decide)) (g := (mkF m 49 #[.val (.ref ob), .val (.int (1 : Int32)), .val (.int (0 : Int32)), .unset] [(.int (1 : Int32)), (.int (10 : Int32)), (.ref ob)])) rfl (by rw [hml]; rfl) (argsL := [(.int (10 : Int32)), (.int (1 : Int32))]) (rest := [(.ref ob)]) (lenOf pd_3 rfl) rfl (by show 2 * 0 + _ ≤ _; exact Nat.le_of_eq rfl) (hb hby d10_49) (fun _ _ => ⟨rfl, e4, (by decide : 0 + 0 ≤ _), (by decide : 0 + 0 ≤ _)⟩)
  dsimp only [Pt.U, Pt.locs, Pt.cells, Pt.slots] at X5 l5 y5 z5 st5 hQ5
  subst l5 y5 z5
  obtain ⟨rfl, Nq5, e5⟩ := hQ5
  have N5 := Fr.app N0 Nq5
  obtain ⟨T6, h6, k6, X6, e6, E6, A6, O6, st6⟩ := newR X5 hx hZ hown (ow hw 101 rfl) (ow hw 102 rfl) e5 (g := (mkF m 52 #[.val (.ref ob), .val (.int (1 : Int32)), .val (.int (0 : Int32)), .unset] [(.int (10 : Int32)), (.ref ob)])) rfl (hb hby d10_52) rfl (by decide) (cap := 10) (by decide) (by decide) (by decide) (by decide)
  obtain ⟨b6, g6⟩ : ∃ z, z = h0.size := ⟨_, rfl⟩
  rw [← g6] at A6 st6
  have V6 : Arv Z h6 b6 k6 (.object "java/lang/Object") (10 : Int32) [.null, .null, .null, .null, .null, .null, .null, .null, .null, .null] .null := (Arv.new A6 (by decide)).pad (pad_rep [] .null 10)
  have f7 : Fld Z h6 ob "java/util/ArrayList" "elementData" "[Ljava/lang/Object;" (.ref de) := (F_elementData_ob.ext E6)
  have f8 : Exa Z h6 ob "java/util/ArrayList" := (E_ob.ext E6)
  obtain ⟨T9, h9, X9, e9, W9, st9⟩ := putF X6 hx hZ hown (host := "") (Or.inl (ow hw 71 rfl)) Via.refl e6 f7 f8 (Or.inl (ow hw 72 rfl)) (ow hw 50 rfl) (ty := (.array (.object "java/lang/Object"))) (by decide) rfl rfl (g := (mkF m 56 #[.val (.ref ob), .val (.int (1 : Int32)), .val (.int (0 : Int32)), .unset] [(.ref b6), (.ref ob), (.ref b6)])) rfl rfl (hb hby d10_56)
  have Fw9 := f7.same W9
  have N9 := Fr.snoc X9 N5 g_ob
  have f10 : Exa Z h9 ob "java/util/ArrayList" := (f8.wr W9)
  have f11 : Fld Z h9 ob "java/util/AbstractList" "modCount" "I" (.int mc) := ((F_modCount_ob.ext E6).other W9 (Or.inr (slot_ne (Or.inl (ow hw 69 rfl)) (Or.inl (ow hw 72 rfl)) (by decide) (t := .int) (t' := (.array (.object "java/lang/Object"))) (by decide) (by decide))))
  have f12 : Fld Z h9 ob "java/util/ArrayList" "size" "I" (.int (0 : Int32)) := ((F_size_ob.ext E6).other W9 (Or.inr (slot_ne (Or.inl (ow hw 81 rfl)) (Or.inl (ow hw 72 rfl)) (by decide) (t := .int) (t' := (.array (.object "java/lang/Object"))) (by decide) (by decide))))
  have f13 : Arv Z h9 b6 k6 (.object "java/lang/Object") (10 : Int32) [.null, .null, .null, .null, .null, .null, .null, .null, .null, .null] .null := (V6.other W9 (Ne.symm (Nat.ne_of_lt (Nat.lt_of_lt_of_le F_modCount_ob.lt (Nat.le_of_eq g6.symm)))))
  obtain ⟨fs, hr, hrun, hended, hW, hsame⟩ := X9.leave (v := some (.ref b6)) (fun h => by rw [Bd.returns] at h; cases h)
  refine ⟨_, _, pre0 _ ?_, hrun, hended, _, _, rfl, ?_, ⟨_, rfl⟩, hW, hsame.mono (by decide) (by decide)⟩
  · show Steps p.tables e below (s₁.setTop (mkF m 0 #[.val (.ref ob), .val (.int (1 : Int32)), .unset, .unset] [])) _
    refine XS.aloadN X0.here hx rfl (hb hby d10_0) rfl rfl ?_
    show Steps p.tables e below (s₁.setTop (mkF m 1 #[.val (.ref ob), .val (.int (1 : Int32)), .unset, .unset] [(.ref ob)])) _
    refine st1 _ ?_
    show Steps p.tables e below (T1.setTop (mkF m 4 #[.val (.ref ob), .val (.int (1 : Int32)), .unset, .unset] [(.ref de)])) _
    refine X1.arraylength hx (cell := cl2) (by rw [e1]; exact Ar2.1) (State.isArrayOf_alike hZ.alike Ar2.2.1) (g := (mkF m 4 #[.val (.ref ob), .val (.int (1 : Int32)), .unset, .unset] [(.ref de)])) rfl (rest := []) rfl (hb hby d10_4) _ ?_
    rw [len_of S2 M2]
    show Steps p.tables e below (T1.setTop (mkF m 5 #[.val (.ref ob), .val (.int (1 : Int32)), .unset, .unset] [(.int (0 : Int32))])) _
    refine XS.istoreN X1.here hx rfl (hb hby d10_5) rfl (l' := #[.val (.ref ob), .val (.int (1 : Int32)), .val (.int (0 : Int32)), .unset]) rfl ?_
    show Steps p.tables e below (T1.setTop (mkF m 6 #[.val (.ref ob), .val (.int (1 : Int32)), .val (.int (0 : Int32)), .unset] [])) _
    refine XS.iloadN X1.here hx rfl (hb hby d10_6) rfl ?_
    show Steps p.tables e below (T1.setTop (mkF m 7 #[.val (.ref ob), .val (.int (1 : Int32)), .val (.int (0 : Int32)), .unset] [(.int (0 : Int32))])) _
    refine XS.ifNo X1.here hx rfl (hb hby d10_7) rfl ((if0 _ _).trans (flt (by decide : ¬ ((0 : Int32) < (0 : Int32)))).2.2.1) ?_
    show Steps p.tables e below (T1.setTop (mkF m 10 #[.val (.ref ob), .val (.int (1 : Int32)), .val (.int (0 : Int32)), .unset] [])) _
    refine XS.aloadN X1.here hx rfl (hb hby d10_10) rfl rfl ?_
    show Steps p.tables e below (T1.setTop (mkF m 11 #[.val (.ref ob), .val (.int (1 : Int32)), .val (.int (0 : Int32)), .unset] [(.ref ob)])) _
    refine st3 _ ?_
    show Steps p.tables e below (T3.setTop (mkF m 14 #[.val (.ref ob), .val (.int (1 : Int32)), .val (.int (0 : Int32)), .unset] [(.ref de)])) _
    refine st4 _ ?_
    show Steps p.tables e below (T4.setTop (mkF m 17 #[.val (.ref ob), .val (.int (1 : Int32)), .val (.int (0 : Int32)), .unset] [(.ref de), (.ref de)])) _
    refine Jvm.RoadKit.acmp (g := (mkF m 17 #[.val (.ref ob), .val (.int (1 : Int32)), .val (.int (0 : Int32)), .unset] [(.ref de), (.ref de)])) X4 hx rfl rfl rfl (pc0 := 17) (pc' := 45) (same := true) rfl (hb hby d10_17) rfl (decide_eq_true rfl) (by decide) (by decide) ?_
    show Steps p.tables e below (T4.setTop (mkF m 45 #[.val (.ref ob), .val (.int (1 : Int32)), .val (.int (0 : Int32)), .unset] [])) _
    refine XS.aloadN X4.here hx rfl (hb hby d10_45) rfl rfl ?_
    show Steps p.tables e below (T4.setTop (mkF m 46 #[.val (.ref ob), .val (.int (1 : Int32)), .val (.int (0 : Int32)), .unset] [(.ref ob)])) _
    refine XS.bipush X4.here hx rfl (hb hby d10_46) ?_
    show Steps p.tables e below (T4.setTop (mkF m 48 #[.val (.ref ob), .val (.int (1 : Int32)), .val (.int (0 : Int32)), .unset] [(.int (10 : Int32)), (.ref ob)])) _
    refine XS.iloadN X4.here hx rfl (hb hby d10_48) rfl ?_
    show Steps p.tables e below (T4.setTop (mkF m 49 #[.val (.ref ob), .val (.int (1 : Int32)), .val (.int (0 : Int32)), .unset] [(.int (1 : Int32)), (.int (10 : Int32)), (.ref ob)])) _
    refine st5 _ ?_
    show Steps p.tables e below (T5.setTop (mkF m 52 #[.val (.ref ob), .val (.int (1 : Int32)), .val (.int (0 : Int32)), .unset] [(.int (10 : Int32)), (.ref ob)])) _
    refine st6 _ ?_
    show Steps p.tables e below (T6.setTop (mkF m 55 #[.val (.ref ob), .val (.int (1 : Int32)), .val (.int (0 : Int32)), .unset] [(.ref b6), (.ref ob)])) _
    refine XS.dupX1 X6.here hx rfl (hb hby d10_55) rfl rfl rfl ?_
    show Steps p.tables e below (T6.setTop (mkF m 56 #[.val (.ref ob), .val (.int (1 : Int32)), .val (.int (0 : Int32)), .unset] [(.ref b6), (.ref ob), (.ref b6)])) _
    refine st9 _ ?_
    show Steps p.tables e below (T9.setTop (mkF m 59 #[.val (.ref ob), .val (.int (1 : Int32)), .val (.int (0 : Int32)), .unset] [(.ref b6)])) _
    exact retOut X9 hx Bd.returns rfl (Or.inr (Or.inr (Or.inr (Or.inr ⟨rfl, rfl, rfl⟩)))) (hb hby d10_59) hr
  · show Q_rmG1 Z ob de kd mc h0 n0 _ T9.heap _
    rw [e9]
    exact ⟨b6, k6, rfl, N9, (Nat.le_trans (Nat.le_refl h0.size) (Nat.le_of_eq g6.symm)), (((Keep.refl h0 [ob]).ext E6).wr W9 (Or.inl (List.mem_of_getElem? (i := 0) rfl))), f10, f11, Fw9, f12, f13, O6⟩
theorem d11_0 : decode jdk_38_method_7_code 0 = .ok (.aload_n 0, 1) := by decide +kernel
theorem d11_1 : decode jdk_38_method_7_code 1 = .ok (.aload_n 0, 1) := by decide +kernel
theorem d11_2 : decode jdk_38_method_7_code 2 = .ok (.getfield 48, 3) := by decide +kernel
theorem d11_5 : decode jdk_38_method_7_code 5 = .ok (.iconst 1, 1) := by decide +kernel
theorem d11_6 : decode jdk_38_method_7_code 6 = .ok (.iadd, 1) := by decide +kernel
theorem d11_7 : decode jdk_38_method_7_code 7 = .ok (.invokevirtual 69, 3) := by decide +kernel
theorem pd_4 : parseMethodDescriptor "(I)[Ljava/lang/Object;" = some ⟨[.int], some (.array (.object "java/lang/Object"))⟩ := by decide +kernel
theorem d11_10 : decode jdk_38_method_7_code 10 = .ok (.areturn, 1) := by decide +kernel
def Q_rmG0 (Z : State) (ob : Addr) (de : Addr) (kd : ClassId) (mc : Int32) (h0 : Heap) (n0 : Nat) (v : Option Value) (h : Heap) (L : List Loc) : Prop := ∃ nb : Addr, ∃ ka : ClassId, v = some (.ref nb) ∧ Fr n0 L ∧ h0.size ≤ nb ∧ Keep h0 h [ob] ∧ Exa Z h ob "java/util/ArrayList" ∧ Fld Z h ob "java/util/AbstractList" "modCount" "I" (.int mc) ∧ Fld Z h ob "java/util/ArrayList" "elementData" "[Ljava/lang/Object;" (.ref nb) ∧ Fld Z h ob "java/util/ArrayList" "size" "I" (.int (0 : Int32)) ∧ Arv Z h nb ka (.object "java/lang/Object") (10 : Int32) [.null, .null, .null, .null, .null, .null, .null, .null, .null, .null] .null ∧ Ovr Z ka "java/lang/Object"
theorem ef_rmG0 (m : MethodId) (ob : Addr) : entryFrame m #[(.ref ob)] 1 = mkF m 0 #[.val (.ref ob)] [] := by first | (simp [entryFrame, mkF, argsToLocals, Value.category]; done) | rfl
set_option maxRecDepth 65536 in
set_option maxHeartbeats 40000000 in
theorem rmG0 (l : Launch) (Z : State) (a0 : Array Value) (hw : ∀ d ∈ tables_1, d.before a0 Z = true) (ws : List Jvm.Cond) (ob : Addr) (de : Addr) (kd : ClassId) (mc : Int32) (h0 : Heap) (n0 : Nat) (Z0 : n0 ≤ h0.size) (F_modCount_ob : Fld Z h0 ob "java/util/AbstractList" "modCount" "I" (.int mc)) (E_ob : Exa Z h0 ob "java/util/ArrayList") (F_elementData_ob : Fld Z h0 ob "java/util/ArrayList" "elementData" "[Ljava/lang/Object;" (.ref de)) (F_size_ob : Fld Z h0 ob "java/util/ArrayList" "size" "I" (.int (0 : Int32))) (V_de : Arv Z h0 de kd (.object "java/lang/Object") (0 : Int32) [] .null) (S_DE : Sta Z h0 "java/util/ArrayList" "DEFAULTCAPACITY_EMPTY_ELEMENTDATA" "[Ljava/lang/Object;" (.ref de)) (g_ob : n0 ≤ ob) :
    MetFree l (⟨"java/util/ArrayList", "grow", "()[Ljava/lang/Object;"⟩ : MethodName) (head1 (Jvm.Cond.code (⟨"java/util/ArrayList", "grow", "()[Ljava/lang/Object;"⟩ : MethodName) jdk_38_method_7_code 1 (some (.array (.object "java/lang/Object"))) :: ws) ({ frames := 2, cells := 1, slots := 10, locals := 29 } : Room)) (fun a U => a = #[(.ref ob)] ∧ Z.Warmed39 U.vm ∧ U.heap = h0) (fun _ _ _ _ _ => True) (fun _ U o U' => ∃ v L, o = .returned v ∧ Q_rmG0 Z ob de kd mc h0 n0 v U'.heap L ∧ FrameEnd U o U' L ({ frames := 2, cells := 1, slots := 10, locals := 29 } : Room).cells ({ frames := 2, cells := 1, slots := 10, locals := 29 } : Room).slots) := by
  refine MetFree.of_bodySF (plainFor_of_name pn_7) hisR ?_
  intro p e s m args below meth c s₁ Bd hml0 hP hK
  obtain ⟨rfl, hZ, hh⟩ := hP
  have hx := Bd.exec
  have hby := Bd.bytes
  have hml : c.maxLocals = 1 := hml0
  have hown : s.vm.findClass "java/util/ArrayList" = some m.cls := findClass_of_methodNamed Bd.named
  have hnm := (name_of_methodNamed Bd.named Bd.method).1
  have X0 : Stand p l e ({ frames := 2, cells := 1, slots := 10, locals := 29 } : Room) s m #[(.ref ob)] below meth c s₁ [] 0 0 := Stand.of_body Bd
  have e0 : s₁.heap = h0 := by rw [← hh, Bd.state]; rfl
  have N0 := Fr.nil n0
  have pre0 : ∀ t, Steps p.tables e below (s₁.setTop (mkF m 0 #[.val (.ref ob)] [])) t → Steps p.tables e below (s₁.setTop (entryFrame m #[(.ref ob)] 1)) t := fun t k => castTop (ef_rmG0 m ob) k
  obtain ⟨T1, X1, e1, st1⟩ := getF X0 hx hZ hown (host := "") (Or.inl (ow hw 80 rfl)) Via.refl e0 F_size_ob (g := (mkF m 2 #[.val (.ref ob)] [(.ref ob), (.ref ob)])) rfl rfl (hb hby d11_2)
  obtain ⟨cq2, q2, q2'⟩ := E_ob.cell
  obtain ⟨_, _, ⟨T2, L2, k2, n2⟩, -, X2, ⟨Lc2, hQ2, l2, y2, z2⟩, st2⟩ := X1.privateBack hx (y := (⟨"java/util/ArrayList", "grow", "(I)[Ljava/lang/Object;"⟩ : MethodName)) hown (mvT hZ (ow hw 92 rfl)) (mvT hZ (ow hw 93 rfl)) (mvT hZ (ow hw 95 rfl)) (Cond.privateMethod_at (mvP hZ (ow hw 94 rfl) (args := #[]))) (mvT hZ (ow hw 96 rfl)) (by decide) (backOf (W := 0) (rmG1 l Z a0 hw [] ob de kd mc h0 n0 Z0 F_modCount_ob E_ob F_elementData_ob F_size_ob V_de S_DE g_ob) hZ (ow hw 96 rfl) (ow hw 51 rfl) (by decide) (by decide)) (g := (mkF m 7 #[.val (.ref ob)] [(.int (1 : Int32)), (.ref ob)])) rfl (by rw [hml]; rfl) (Steps.refl _) (a := ob) (by rw [e1]; exact q2) q2' (argsL := [(.int (1 : Int32))]) (rest := []) (lenOf pd_4 rfl) rfl (by show 2 * 0 + _ ≤ _; exact Nat.le_of_eq rfl) (hb hby d11_7) (fun _ _ => ⟨rfl, e1, (by decide : 0 + 1 ≤ _), (by decide : 0 + 10 ≤ _)⟩)
  dsimp only [Pt.U, Pt.locs, Pt.cells, Pt.slots] at X2 l2 y2 z2 st2 hQ2
  subst l2 y2 z2
  obtain ⟨nb_2, ka_2, rfl, Nq2, gb2_0, Kp2, Fq2_0, Fq2_1, Fq2_2, Fq2_3, Fq2_4, Pq2_0⟩ := hQ2
  have N2 := Fr.app N0 Nq2
  obtain ⟨fs, hr, hrun, hended, hW, hsame⟩ := X2.leave (v := some (.ref nb_2)) (fun h => by rw [Bd.returns] at h; cases h)
  refine ⟨_, _, pre0 _ ?_, hrun, hended, _, _, rfl, ?_, ⟨_, rfl⟩, hW, hsame.mono (by decide) (by decide)⟩
  · show Steps p.tables e below (s₁.setTop (mkF m 0 #[.val (.ref ob)] [])) _
    refine XS.aloadN X0.here hx rfl (hb hby d11_0) rfl rfl ?_
    show Steps p.tables e below (s₁.setTop (mkF m 1 #[.val (.ref ob)] [(.ref ob)])) _
    refine XS.aloadN X0.here hx rfl (hb hby d11_1) rfl rfl ?_
    show Steps p.tables e below (s₁.setTop (mkF m 2 #[.val (.ref ob)] [(.ref ob), (.ref ob)])) _
    refine st1 _ ?_
    show Steps p.tables e below (T1.setTop (mkF m 5 #[.val (.ref ob)] [(.int (0 : Int32)), (.ref ob)])) _
    refine XS.iconst X1.here hx rfl (hb hby d11_5) ?_
    show Steps p.tables e below (T1.setTop (mkF m 6 #[.val (.ref ob)] [(.int (1 : Int32)), (.int (0 : Int32)), (.ref ob)])) _
    refine XS.iadd X1.here hx rfl (hb hby d11_6) rfl ?_
    show Steps p.tables e below (T1.setTop (mkF m 7 #[.val (.ref ob)] [(.int ((0 : Int32) + (1 : Int32))), (.ref ob)])) _
    rw [show ((0 : Int32) + (1 : Int32)) = (1 : Int32) from by decide]
    show Steps p.tables e below (T1.setTop (mkF m 7 #[.val (.ref ob)] [(.int (1 : Int32)), (.ref ob)])) _
    refine st2.trans ?_
    show Steps p.tables e below (T2.setTop (mkF m 10 #[.val (.ref ob)] [(.ref nb_2)])) _
    exact retOut X2 hx Bd.returns rfl (Or.inr (Or.inr (Or.inr (Or.inr ⟨rfl, rfl, rfl⟩)))) (hb hby d11_10) hr
  · show Q_rmG0 Z ob de kd mc h0 n0 _ T2.heap _
    exact ⟨nb_2, ka_2, rfl, N2, (Nat.le_trans (Nat.le_refl h0.size) gb2_0), ((Keep.refl h0 [ob]).trans Kp2 (allS (Or.inl (List.mem_of_getElem? (i := 0) rfl)) all0)), Fq2_0, Fq2_1, Fq2_2, Fq2_3, Fq2_4, Pq2_0⟩
theorem d12_0 : decode jdk_38_method_24_code 0 = .ok (.iload_n 3, 1) := by decide +kernel
theorem d12_1 : decode jdk_38_method_24_code 1 = .ok (.aload_n 2, 1) := by decide +kernel
theorem d12_2 : decode jdk_38_method_24_code 2 = .ok (.arraylength, 1) := by decide +kernel
theorem d12_3 : decode jdk_38_method_24_code 3 = .ok (.if_icmp .ne 8, 3) := by decide +kernel
theorem d12_6 : decode jdk_38_method_24_code 6 = .ok (.aload_n 0, 1) := by decide +kernel
theorem d12_7 : decode jdk_38_method_24_code 7 = .ok (.invokevirtual 129, 3) := by decide +kernel
theorem pd_5 : parseMethodDescriptor "()[Ljava/lang/Object;" = some ⟨[], some (.array (.object "java/lang/Object"))⟩ := by decide +kernel
theorem d12_10 : decode jdk_38_method_24_code 10 = .ok (.astore_n 2, 1) := by decide +kernel
theorem d12_11 : decode jdk_38_method_24_code 11 = .ok (.aload_n 2, 1) := by decide +kernel
theorem d12_12 : decode jdk_38_method_24_code 12 = .ok (.iload_n 3, 1) := by decide +kernel
theorem d12_13 : decode jdk_38_method_24_code 13 = .ok (.aload_n 1, 1) := by decide +kernel
theorem d12_14 : decode jdk_38_method_24_code 14 = .ok (.aastore, 1) := by decide +kernel
theorem d12_15 : decode jdk_38_method_24_code 15 = .ok (.aload_n 0, 1) := by decide +kernel
theorem d12_16 : decode jdk_38_method_24_code 16 = .ok (.iload_n 3, 1) := by decide +kernel
theorem d12_17 : decode jdk_38_method_24_code 17 = .ok (.iconst 1, 1) := by decide +kernel
theorem d12_18 : decode jdk_38_method_24_code 18 = .ok (.iadd, 1) := by decide +kernel
theorem d12_19 : decode jdk_38_method_24_code 19 = .ok (.putfield 48, 3) := by decide +kernel
theorem d12_22 : decode jdk_38_method_24_code 22 = .ok (.return_, 1) := by decide +kernel
def Q_rmH0 (Z : State) (ob : Addr) (el : Addr) (de : Addr) (kd : ClassId) (mc : Int32) (h0 : Heap) (n0 : Nat) (v : Option Value) (h : Heap) (L : List Loc) : Prop := ∃ nb : Addr, ∃ ka : ClassId, v = none ∧ Fr n0 L ∧ h0.size ≤ nb ∧ Keep h0 h [ob] ∧ Exa Z h ob "java/util/ArrayList" ∧ Fld Z h ob "java/util/AbstractList" "modCount" "I" (.int mc) ∧ Fld Z h ob "java/util/ArrayList" "elementData" "[Ljava/lang/Object;" (.ref nb) ∧ Fld Z h ob "java/util/ArrayList" "size" "I" (.int (1 : Int32)) ∧ Arv Z h nb ka (.object "java/lang/Object") (10 : Int32) [(.ref el), .null, .null, .null, .null, .null, .null, .null, .null, .null] .null ∧ Ovr Z ka "java/lang/Object"
theorem ef_rmH0 (m : MethodId) (ob : Addr) (el : Addr) (de : Addr) : entryFrame m #[(.ref ob), (.ref el), (.ref de), (.int (0 : Int32))] 4 = mkF m 0 #[.val (.ref ob), .val (.ref el), .val (.ref de), .val (.int (0 : Int32))] [] := by first | (simp [entryFrame, mkF, argsToLocals, Value.category]; done) | rfl
set_option maxRecDepth 65536 in
set_option maxHeartbeats 40000000 in
theorem rmH0 (l : Launch) (Z : State) (a0 : Array Value) (hw : ∀ d ∈ tables_1, d.before a0 Z = true) (ws : List Jvm.Cond) (ob : Addr) (el : Addr) (de : Addr) (kd : ClassId) (mc : Int32) (h0 : Heap) (n0 : Nat) (Z0 : n0 ≤ h0.size) (F_modCount_ob : Fld Z h0 ob "java/util/AbstractList" "modCount" "I" (.int mc)) (E_ob : Exa Z h0 ob "java/util/ArrayList") (F_elementData_ob : Fld Z h0 ob "java/util/ArrayList" "elementData" "[Ljava/lang/Object;" (.ref de)) (F_size_ob : Fld Z h0 ob "java/util/ArrayList" "size" "I" (.int (0 : Int32))) (V_de : Arv Z h0 de kd (.object "java/lang/Object") (0 : Int32) [] .null) (S_DE : Sta Z h0 "java/util/ArrayList" "DEFAULTCAPACITY_EMPTY_ELEMENTDATA" "[Ljava/lang/Object;" (.ref de)) (E_el : Exa Z h0 el "com/example/sortition/sortition/Element") (g_ob : n0 ≤ ob) :
    MetFree l (⟨"java/util/ArrayList", "add", "(Ljava/lang/Object;[Ljava/lang/Object;I)V"⟩ : MethodName) (head1 (Jvm.Cond.code (⟨"java/util/ArrayList", "add", "(Ljava/lang/Object;[Ljava/lang/Object;I)V"⟩ : MethodName) jdk_38_method_24_code 4 none :: ws) ({ frames := 3, cells := 1, slots := 10, locals := 41 } : Room)) (fun a U => a = #[(.ref ob), (.ref el), (.ref de), (.int (0 : Int32))] ∧ Z.Warmed39 U.vm ∧ U.heap = h0) (fun _ _ _ _ _ => True) (fun _ U o U' => ∃ v L, o = .returned v ∧ Q_rmH0 Z ob el de kd mc h0 n0 v U'.heap L ∧ FrameEnd U o U' L ({ frames := 3, cells := 1, slots := 10, locals := 41 } : Room).cells ({ frames := 3, cells := 1, slots := 10, locals := 41 } : Room).slots) := by
  refine MetFree.of_bodySF (plainFor_of_name pn_7) hisR ?_
  intro p e s m args below meth c s₁ Bd hml0 hP hK
  obtain ⟨rfl, hZ, hh⟩ := hP
  have hx := Bd.exec
  have hby := Bd.bytes
  have hml : c.maxLocals = 4 := hml0
  have hown : s.vm.findClass "java/util/ArrayList" = some m.cls := findClass_of_methodNamed Bd.named
  have hnm := (name_of_methodNamed Bd.named Bd.method).1
  have X0 : Stand p l e ({ frames := 3, cells := 1, slots := 10, locals := 41 } : Room) s m #[(.ref ob), (.ref el), (.ref de), (.int (0 : Int32))] below meth c s₁ [] 0 0 := Stand.of_body Bd
  have e0 : s₁.heap = h0 := by rw [← hh, Bd.state]; rfl
  have N0 := Fr.nil n0
  have pre0 : ∀ t, Steps p.tables e below (s₁.setTop (mkF m 0 #[.val (.ref ob), .val (.ref el), .val (.ref de), .val (.int (0 : Int32))] [])) t → Steps p.tables e below (s₁.setTop (entryFrame m #[(.ref ob), (.ref el), (.ref de), (.int (0 : Int32))] 4)) t := fun t k => castTop (ef_rmH0 m ob el de) k
  have Vc1 := V_de
  obtain ⟨cl1, Ar1, -, S1, M1, -, -⟩ := Vc1
  obtain ⟨cq2, q2, q2'⟩ := E_ob.cell
  obtain ⟨_, _, ⟨T2, L2, k2, n2⟩, -, X2, ⟨Lc2, hQ2, l2, y2, z2⟩, st2⟩ := X0.privateBack hx (y := (⟨"java/util/ArrayList", "grow", "()[Ljava/lang/Object;"⟩ : MethodName)) hown (mvT hZ (ow hw 87 rfl)) (mvT hZ (ow hw 88 rfl)) (mvT hZ (ow hw 90 rfl)) (Cond.privateMethod_at (mvP hZ (ow hw 89 rfl) (args := #[]))) (mvT hZ (ow hw 91 rfl)) (by decide) (backOf (W := 0) (rmG0 l Z a0 hw [] ob de kd mc h0 n0 Z0 F_modCount_ob E_ob F_elementData_ob F_size_ob V_de S_DE g_ob) hZ (ow hw 91 rfl) (ow hw 51 rfl) (by decide) (by decide)) (g := (mkF m 7 #[.val (.ref ob), .val (.ref el), .val (.ref de), .val (.int (0 : Int32))] [(.ref ob)])) rfl (by rw [hml]; rfl) (Steps.refl _) (a := ob) (by rw [e0]; exact q2) q2' (argsL := []) (rest := []) (lenOf pd_5 rfl) rfl (by show 2 * 0 + _ ≤ _; exact Nat.le_of_eq rfl) (hb hby d12_7) (fun _ _ => ⟨rfl, e0, (by decide : 0 + 1 ≤ _), (by decide : 0 + 10 ≤ _)⟩)
  dsimp only [Pt.U, Pt.locs, Pt.cells, Pt.slots] at X2 l2 y2 z2 st2 hQ2
  subst l2 y2 z2
  obtain ⟨nb_2, ka_2, rfl, Nq2, gb2_0, Kp2, Fq2_0, Fq2_1, Fq2_2, Fq2_3, Fq2_4, Pq2_0⟩ := hQ2
  have N2 := Fr.app N0 Nq2
  have f4 : Exa Z T2.heap el "com/example/sortition/sortition/Element" := (E_el.keep Kp2)
  have Vc3 := Fq2_4
  obtain ⟨cl3, Ar3, q3, S3, M3, H3, G3⟩ := Vc3
  have hin3 : ¬ ((0 : Int32) < 0 ∨ cl3.slots.size ≤ ((0 : Int32)).toNatClampNeg) := inb_of S3 ⟨by decide, by decide⟩
  obtain ⟨T3, h3, X3, e3, W3, st3⟩ := stR X2 hx hZ rfl Ar3 (j := (0 : Int32)) hin3 rfl (Sto.ofV Ar3 q3 Pq2_0 (Ins.of_exa f4 (ow hw 103 rfl))) (g := (mkF m 14 #[.val (.ref ob), .val (.ref el), .val (.ref nb_2), .val (.int (0 : Int32))] [(.ref el), (.int (0 : Int32)), (.ref nb_2)])) rfl rfl (hb hby d12_14)
  have V3 : Arv Z h3 nb_2 ka_2 (.object "java/lang/Object") (10 : Int32) [(.ref el), .null, .null, .null, .null, .null, .null, .null, .null, .null] .null := Arv.set Ar3 q3 S3 M3 H3 G3 rfl W3 0 rfl (Nat.le_of_ble_eq_true rfl)
  have N3 := Fr.snoc X3 N2 (Nat.le_trans Z0 gb2_0)
  have f5 : Fld Z h3 ob "java/util/ArrayList" "size" "I" (.int (0 : Int32)) := (Fq2_3.other W3 (Or.inl (Nat.ne_of_lt (Nat.lt_of_lt_of_le F_modCount_ob.lt gb2_0))))
  have f6 : Exa Z h3 ob "java/util/ArrayList" := (Fq2_0.wr W3)
  obtain ⟨T7, h7, X7, e7, W7, st7⟩ := putF X3 hx hZ hown (host := "") (Or.inl (ow hw 80 rfl)) Via.refl e3 f5 f6 (Or.inl (ow hw 81 rfl)) (ow hw 50 rfl) (ty := .int) (by decide) rfl rfl (g := (mkF m 19 #[.val (.ref ob), .val (.ref el), .val (.ref nb_2), .val (.int (0 : Int32))] [(.int (1 : Int32)), (.ref ob)])) rfl rfl (hb hby d12_19)
  have Fw7 := f5.same W7
  have N7 := Fr.snoc X7 N3 g_ob
  have f8 : Exa Z h7 ob "java/util/ArrayList" := (f6.wr W7)
  have f9 : Fld Z h7 ob "java/util/AbstractList" "modCount" "I" (.int mc) := ((Fq2_1.other W3 (Or.inl (Nat.ne_of_lt (Nat.lt_of_lt_of_le F_modCount_ob.lt gb2_0)))).other W7 (Or.inr (slot_ne (Or.inl (ow hw 69 rfl)) (Or.inl (ow hw 81 rfl)) (by decide) (t := .int) (t' := .int) (by decide) (by decide))))
  have f10 : Fld Z h7 ob "java/util/ArrayList" "elementData" "[Ljava/lang/Object;" (.ref nb_2) := ((Fq2_2.other W3 (Or.inl (Nat.ne_of_lt (Nat.lt_of_lt_of_le F_modCount_ob.lt gb2_0)))).other W7 (Or.inr (slot_ne (Or.inl (ow hw 72 rfl)) (Or.inl (ow hw 81 rfl)) (by decide) (t := (.array (.object "java/lang/Object"))) (t' := .int) (by decide) (by decide))))
  have f11 : Arv Z h7 nb_2 ka_2 (.object "java/lang/Object") (10 : Int32) [(.ref el), .null, .null, .null, .null, .null, .null, .null, .null, .null] .null := (V3.other W7 (Ne.symm (Nat.ne_of_lt (Nat.lt_of_lt_of_le F_modCount_ob.lt gb2_0))))
  obtain ⟨fs, hr, hrun, hended, hW, hsame⟩ := X7.leave (v := none) (fun _ => rfl)
  refine ⟨_, _, pre0 _ ?_, hrun, hended, _, _, rfl, ?_, ⟨_, rfl⟩, hW, hsame.mono (by decide) (by decide)⟩
  · show Steps p.tables e below (s₁.setTop (mkF m 0 #[.val (.ref ob), .val (.ref el), .val (.ref de), .val (.int (0 : Int32))] [])) _
    refine XS.iloadN X0.here hx rfl (hb hby d12_0) rfl ?_
    show Steps p.tables e below (s₁.setTop (mkF m 1 #[.val (.ref ob), .val (.ref el), .val (.ref de), .val (.int (0 : Int32))] [(.int (0 : Int32))])) _
    refine XS.aloadN X0.here hx rfl (hb hby d12_1) rfl rfl ?_
    show Steps p.tables e below (s₁.setTop (mkF m 2 #[.val (.ref ob), .val (.ref el), .val (.ref de), .val (.int (0 : Int32))] [(.ref de), (.int (0 : Int32))])) _
    refine X0.arraylength hx (cell := cl1) (by rw [e0]; exact Ar1.1) (State.isArrayOf_alike hZ.alike Ar1.2.1) (g := (mkF m 2 #[.val (.ref ob), .val (.ref el), .val (.ref de), .val (.int (0 : Int32))] [(.ref de), (.int (0 : Int32))])) rfl (rest := [(.int (0 : Int32))]) rfl (hb hby d12_2) _ ?_
    rw [len_of S1 M1]
    show Steps p.tables e below (s₁.setTop (mkF m 3 #[.val (.ref ob), .val (.ref el), .val (.ref de), .val (.int (0 : Int32))] [(.int (0 : Int32)), (.int (0 : Int32))])) _
    refine XS.icmpNo X0.here hx rfl (hb hby d12_3) rfl (teq (rfl : (0 : Int32) = (0 : Int32))).2 ?_
    show Steps p.tables e below (s₁.setTop (mkF m 6 #[.val (.ref ob), .val (.ref el), .val (.ref de), .val (.int (0 : Int32))] [])) _
    refine XS.aloadN X0.here hx rfl (hb hby d12_6) rfl rfl ?_
    show Steps p.tables e below (s₁.setTop (mkF m 7 #[.val (.ref ob), .val (.ref el), .val (.ref de), .val (.int (0 : Int32))] [(.ref ob)])) _
    refine st2.trans ?_
    show Steps p.tables e below (T2.setTop (mkF m 10 #[.val (.ref ob), .val (.ref el), .val (.ref de), .val (.int (0 : Int32))] [(.ref nb_2)])) _
    refine XS.astoreN X2.here hx rfl (hb hby d12_10) rfl rfl (l' := #[.val (.ref ob), .val (.ref el), .val (.ref nb_2), .val (.int (0 : Int32))]) rfl ?_
    show Steps p.tables e below (T2.setTop (mkF m 11 #[.val (.ref ob), .val (.ref el), .val (.ref nb_2), .val (.int (0 : Int32))] [])) _
    refine XS.aloadN X2.here hx rfl (hb hby d12_11) rfl rfl ?_
    show Steps p.tables e below (T2.setTop (mkF m 12 #[.val (.ref ob), .val (.ref el), .val (.ref nb_2), .val (.int (0 : Int32))] [(.ref nb_2)])) _
    refine XS.iloadN X2.here hx rfl (hb hby d12_12) rfl ?_
    show Steps p.tables e below (T2.setTop (mkF m 13 #[.val (.ref ob), .val (.ref el), .val (.ref nb_2), .val (.int (0 : Int32))] [(.int (0 : Int32)), (.ref nb_2)])) _
    refine XS.aloadN X2.here hx rfl (hb hby d12_13) rfl rfl ?_
    show Steps p.tables e below (T2.setTop (mkF m 14 #[.val (.ref ob), .val (.ref el), .val (.ref nb_2), .val (.int (0 : Int32))] [(.ref el), (.int (0 : Int32)), (.ref nb_2)])) _
    refine st3 _ ?_
    show Steps p.tables e below (T3.setTop (mkF m 15 #[.val (.ref ob), .val (.ref el), .val (.ref nb_2), .val (.int (0 : Int32))] [])) _
    refine XS.aloadN X3.here hx rfl (hb hby d12_15) rfl rfl ?_
    show Steps p.tables e below (T3.setTop (mkF m 16 #[.val (.ref ob), .val (.ref el), .val (.ref nb_2), .val (.int (0 : Int32))] [(.ref ob)])) _
    refine XS.iloadN X3.here hx rfl (hb hby d12_16) rfl ?_
    show Steps p.tables e below (T3.setTop (mkF m 17 #[.val (.ref ob), .val (.ref el), .val (.ref nb_2), .val (.int (0 : Int32))] [(.int (0 : Int32)), (.ref ob)])) _
    refine XS.iconst X3.here hx rfl (hb hby d12_17) ?_
    show Steps p.tables e below (T3.setTop (mkF m 18 #[.val (.ref ob), .val (.ref el), .val (.ref nb_2), .val (.int (0 : Int32))] [(.int (1 : Int32)), (.int (0 : Int32)), (.ref ob)])) _
    refine XS.iadd X3.here hx rfl (hb hby d12_18) rfl ?_
    show Steps p.tables e below (T3.setTop (mkF m 19 #[.val (.ref ob), .val (.ref el), .val (.ref nb_2), .val (.int (0 : Int32))] [(.int ((0 : Int32) + (1 : Int32))), (.ref ob)])) _
    rw [show ((0 : Int32) + (1 : Int32)) = (1 : Int32) from by decide]
    show Steps p.tables e below (T3.setTop (mkF m 19 #[.val (.ref ob), .val (.ref el), .val (.ref nb_2), .val (.int (0 : Int32))] [(.int (1 : Int32)), (.ref ob)])) _
    refine st7 _ ?_
    show Steps p.tables e below (T7.setTop (mkF m 22 #[.val (.ref ob), .val (.ref el), .val (.ref nb_2), .val (.int (0 : Int32))] [])) _
    exact X7.returnOut hx Bd.returns (hb hby d12_22) hr
  · show Q_rmH0 Z ob el de kd mc h0 n0 _ T7.heap _
    rw [e7]
    exact ⟨nb_2, ka_2, rfl, N7, (Nat.le_trans (Nat.le_refl h0.size) gb2_0), ((((Keep.refl h0 [ob]).trans Kp2 (allS (Or.inl (List.mem_of_getElem? (i := 0) rfl)) all0)).wr W3 (Or.inr (Nat.le_trans (Nat.le_refl h0.size) gb2_0))).wr W7 (Or.inl (List.mem_of_getElem? (i := 0) rfl))), f8, f9, f10, Fw7, f11, Pq2_0⟩
theorem d13_0 : decode jdk_38_method_25_code 0 = .ok (.aload_n 0, 1) := by decide +kernel
theorem d13_1 : decode jdk_38_method_25_code 1 = .ok (.dup, 1) := by decide +kernel
theorem d13_2 : decode jdk_38_method_25_code 2 = .ok (.getfield 63, 3) := by decide +kernel
theorem d13_5 : decode jdk_38_method_25_code 5 = .ok (.iconst 1, 1) := by decide +kernel
theorem d13_6 : decode jdk_38_method_25_code 6 = .ok (.iadd, 1) := by decide +kernel
theorem d13_7 : decode jdk_38_method_25_code 7 = .ok (.putfield 63, 3) := by decide +kernel
theorem d13_10 : decode jdk_38_method_25_code 10 = .ok (.aload_n 0, 1) := by decide +kernel
theorem d13_11 : decode jdk_38_method_25_code 11 = .ok (.aload_n 1, 1) := by decide +kernel
theorem d13_12 : decode jdk_38_method_25_code 12 = .ok (.aload_n 0, 1) := by decide +kernel
theorem d13_13 : decode jdk_38_method_25_code 13 = .ok (.getfield 9, 3) := by decide +kernel
theorem d13_16 : decode jdk_38_method_25_code 16 = .ok (.aload_n 0, 1) := by decide +kernel
theorem d13_17 : decode jdk_38_method_25_code 17 = .ok (.getfield 48, 3) := by decide +kernel
theorem d13_20 : decode jdk_38_method_25_code 20 = .ok (.invokevirtual 131, 3) := by decide +kernel
theorem pd_6 : parseMethodDescriptor "(Ljava/lang/Object;[Ljava/lang/Object;I)V" = some ⟨[(.object "java/lang/Object"), (.array (.object "java/lang/Object")), .int], none⟩ := by decide +kernel
theorem d13_23 : decode jdk_38_method_25_code 23 = .ok (.iconst 1, 1) := by decide +kernel
theorem d13_24 : decode jdk_38_method_25_code 24 = .ok (.ireturn, 1) := by decide +kernel
def Q_rmA0 (Z : State) (ob : Addr) (el : Addr) (de : Addr) (kd : ClassId) (mc : Int32) (h0 : Heap) (n0 : Nat) (v : Option Value) (h : Heap) (L : List Loc) : Prop := ∃ nb : Addr, ∃ ka : ClassId, v = some (.int (1 : Int32)) ∧ Fr n0 L ∧ h0.size ≤ nb ∧ Keep h0 h [ob] ∧ Exa Z h ob "java/util/ArrayList" ∧ Fld Z h ob "java/util/AbstractList" "modCount" "I" (.int (mc + (1 : Int32))) ∧ Fld Z h ob "java/util/ArrayList" "elementData" "[Ljava/lang/Object;" (.ref nb) ∧ Fld Z h ob "java/util/ArrayList" "size" "I" (.int (1 : Int32)) ∧ Arv Z h nb ka (.object "java/lang/Object") (10 : Int32) [(.ref el), .null, .null, .null, .null, .null, .null, .null, .null, .null] .null ∧ Ovr Z ka "java/lang/Object"
theorem ef_rmA0 (m : MethodId) (ob : Addr) (el : Addr) : entryFrame m #[(.ref ob), (.ref el)] 2 = mkF m 0 #[.val (.ref ob), .val (.ref el)] [] := by first | (simp [entryFrame, mkF, argsToLocals, Value.category]; done) | rfl
set_option maxRecDepth 65536 in
set_option maxHeartbeats 40000000 in
theorem rmA0 (l : Launch) (Z : State) (a0 : Array Value) (hw : ∀ d ∈ tables_1, d.before a0 Z = true) (ws : List Jvm.Cond) (ob : Addr) (el : Addr) (de : Addr) (kd : ClassId) (mc : Int32) (h0 : Heap) (n0 : Nat) (Z0 : n0 ≤ h0.size) (F_modCount_ob : Fld Z h0 ob "java/util/AbstractList" "modCount" "I" (.int mc)) (E_ob : Exa Z h0 ob "java/util/ArrayList") (F_elementData_ob : Fld Z h0 ob "java/util/ArrayList" "elementData" "[Ljava/lang/Object;" (.ref de)) (F_size_ob : Fld Z h0 ob "java/util/ArrayList" "size" "I" (.int (0 : Int32))) (V_de : Arv Z h0 de kd (.object "java/lang/Object") (0 : Int32) [] .null) (S_DE : Sta Z h0 "java/util/ArrayList" "DEFAULTCAPACITY_EMPTY_ELEMENTDATA" "[Ljava/lang/Object;" (.ref de)) (E_el : Exa Z h0 el "com/example/sortition/sortition/Element") (g_ob : n0 ≤ ob) (ne_de_ob : de ≠ ob) :
    MetFree l (⟨"java/util/ArrayList", "add", "(Ljava/lang/Object;)Z"⟩ : MethodName) (head1 (Jvm.Cond.code (⟨"java/util/ArrayList", "add", "(Ljava/lang/Object;)Z"⟩ : MethodName) jdk_38_method_25_code 2 (some .boolean) :: ws) ({ frames := 4, cells := 1, slots := 10, locals := 56 } : Room)) (fun a U => a = #[(.ref ob), (.ref el)] ∧ Z.Warmed39 U.vm ∧ U.heap = h0) (fun _ _ _ _ _ => True) (fun _ U o U' => ∃ v L, o = .returned v ∧ Q_rmA0 Z ob el de kd mc h0 n0 v U'.heap L ∧ FrameEnd U o U' L ({ frames := 4, cells := 1, slots := 10, locals := 56 } : Room).cells ({ frames := 4, cells := 1, slots := 10, locals := 56 } : Room).slots) := by
  refine MetFree.of_bodySF (plainFor_of_name pn_7) hisR ?_
  intro p e s m args below meth c s₁ Bd hml0 hP hK
  obtain ⟨rfl, hZ, hh⟩ := hP
  have hx := Bd.exec
  have hby := Bd.bytes
  have hml : c.maxLocals = 2 := hml0
  have hown : s.vm.findClass "java/util/ArrayList" = some m.cls := findClass_of_methodNamed Bd.named
  have hnm := (name_of_methodNamed Bd.named Bd.method).1
  have X0 : Stand p l e ({ frames := 4, cells := 1, slots := 10, locals := 56 } : Room) s m #[(.ref ob), (.ref el)] below meth c s₁ [] 0 0 := Stand.of_body Bd
  have e0 : s₁.heap = h0 := by rw [← hh, Bd.state]; rfl
  have N0 := Fr.nil n0
  have pre0 : ∀ t, Steps p.tables e below (s₁.setTop (mkF m 0 #[.val (.ref ob), .val (.ref el)] [])) t → Steps p.tables e below (s₁.setTop (entryFrame m #[(.ref ob), (.ref el)] 2)) t := fun t k => castTop (ef_rmA0 m ob el) k
  obtain ⟨T1, X1, e1, st1⟩ := getF X0 hx hZ hown (host := "") (Or.inl (ow hw 78 rfl)) (Via.of (ow hw 79 rfl)) e0 F_modCount_ob (g := (mkF m 2 #[.val (.ref ob), .val (.ref el)] [(.ref ob), (.ref ob)])) rfl rfl (hb hby d13_2)
  obtain ⟨T2, h2, X2, e2, W2, st2⟩ := putF X1 hx hZ hown (host := "") (Or.inl (ow hw 78 rfl)) (Via.of (ow hw 79 rfl)) e1 F_modCount_ob E_ob (Or.inl (ow hw 69 rfl)) (ow hw 50 rfl) (ty := .int) (by decide) rfl rfl (g := (mkF m 7 #[.val (.ref ob), .val (.ref el)] [(.int (mc + (1 : Int32))), (.ref ob)])) rfl rfl (hb hby d13_7)
  have Fw2 := F_modCount_ob.same W2
  have N2 := Fr.snoc X2 N0 g_ob
  have f3 : Fld Z h2 ob "java/util/ArrayList" "elementData" "[Ljava/lang/Object;" (.ref de) := (F_elementData_ob.other W2 (Or.inr (slot_ne (Or.inl (ow hw 72 rfl)) (Or.inl (ow hw 69 rfl)) (by decide) (t := (.array (.object "java/lang/Object"))) (t' := .int) (by decide) (by decide))))
  obtain ⟨T4, X4, e4, st4⟩ := getF X2 hx hZ hown (host := "") (Or.inl (ow hw 71 rfl)) Via.refl e2 f3 (g := (mkF m 13 #[.val (.ref ob), .val (.ref el)] [(.ref ob), (.ref el), (.ref ob)])) rfl rfl (hb hby d13_13)
  have f5 : Fld Z h2 ob "java/util/ArrayList" "size" "I" (.int (0 : Int32)) := (F_size_ob.other W2 (Or.inr (slot_ne (Or.inl (ow hw 81 rfl)) (Or.inl (ow hw 69 rfl)) (by decide) (t := .int) (t' := .int) (by decide) (by decide))))
  obtain ⟨T6, X6, e6, st6⟩ := getF X4 hx hZ hown (host := "") (Or.inl (ow hw 80 rfl)) Via.refl e4 f5 (g := (mkF m 17 #[.val (.ref ob), .val (.ref el)] [(.ref ob), (.ref de), (.ref el), (.ref ob)])) rfl rfl (hb hby d13_17)
  have f8 : Exa Z h2 ob "java/util/ArrayList" := (E_ob.wr W2)
  have f9 : Arv Z h2 de kd (.object "java/lang/Object") (0 : Int32) [] .null := (V_de.other W2 ne_de_ob)
  have f10 : Sta Z h2 "java/util/ArrayList" "DEFAULTCAPACITY_EMPTY_ELEMENTDATA" "[Ljava/lang/Object;" (.ref de) := (S_DE.wr W2)
  have f11 : Exa Z h2 el "com/example/sortition/sortition/Element" := (E_el.wr W2)
  obtain ⟨cq7, q7, q7'⟩ := f8.cell
  obtain ⟨_, _, ⟨T7, L7, k7, n7⟩, -, X7, ⟨Lc7, hQ7, l7, y7, z7⟩, st7⟩ := X6.privateBack hx (y := (⟨"java/util/ArrayList", "add", "(Ljava/lang/Object;[Ljava/lang/Object;I)V"⟩ : MethodName)) hown (mvT hZ (ow hw 82 rfl)) (mvT hZ (ow hw 83 rfl)) (mvT hZ (ow hw 85 rfl)) (Cond.privateMethod_at (mvP hZ (ow hw 84 rfl) (args := #[]))) (mvT hZ (ow hw 86 rfl)) (by decide) (backOf (W := 0) (rmH0 l Z a0 hw [] ob el de kd (mc + (1 : Int32)) h2 n0 (Nat.le_trans Z0 (Keep.of_wr W2).1) Fw2 f8 f3 f5 f9 f10 f11 g_ob) hZ (ow hw 86 rfl) (ow hw 51 rfl) (by decide) (by decide)) (g := (mkF m 20 #[.val (.ref ob), .val (.ref el)] [(.int (0 : Int32)), (.ref de), (.ref el), (.ref ob)])) rfl (by rw [hml]; rfl) (Steps.refl _) (a := ob) (by rw [e6]; exact q7) q7' (argsL := [(.ref el), (.ref de), (.int (0 : Int32))]) (rest := []) (lenOf pd_6 rfl) rfl (by show 2 * 0 + _ ≤ _; exact Nat.le_of_eq rfl) (hb hby d13_20) (fun _ _ => ⟨rfl, e6, (by decide : 0 + 1 ≤ _), (by decide : 0 + 10 ≤ _)⟩)
  dsimp only [Pt.U, Pt.locs, Pt.cells, Pt.slots] at X7 l7 y7 z7 st7 hQ7
  subst l7 y7 z7
  obtain ⟨nb_7, ka_7, rfl, Nq7, gb7_0, Kp7, Fq7_0, Fq7_1, Fq7_2, Fq7_3, Fq7_4, Pq7_0⟩ := hQ7
  have N7 := Fr.app N2 Nq7
  obtain ⟨fs, hr, hrun, hended, hW, hsame⟩ := X7.leave (v := some (.int (1 : Int32))) (fun h => by rw [Bd.returns] at h; cases h)
  refine ⟨_, _, pre0 _ ?_, hrun, hended, _, _, rfl, ?_, ⟨_, rfl⟩, hW, hsame.mono (by decide) (by decide)⟩
  · show Steps p.tables e below (s₁.setTop (mkF m 0 #[.val (.ref ob), .val (.ref el)] [])) _
    refine XS.aloadN X0.here hx rfl (hb hby d13_0) rfl rfl ?_
    show Steps p.tables e below (s₁.setTop (mkF m 1 #[.val (.ref ob), .val (.ref el)] [(.ref ob)])) _
    refine XS.dup X0.here hx rfl (hb hby d13_1) rfl rfl ?_
    show Steps p.tables e below (s₁.setTop (mkF m 2 #[.val (.ref ob), .val (.ref el)] [(.ref ob), (.ref ob)])) _
    refine st1 _ ?_
    show Steps p.tables e below (T1.setTop (mkF m 5 #[.val (.ref ob), .val (.ref el)] [(.int mc), (.ref ob)])) _
    refine XS.iconst X1.here hx rfl (hb hby d13_5) ?_
    show Steps p.tables e below (T1.setTop (mkF m 6 #[.val (.ref ob), .val (.ref el)] [(.int (1 : Int32)), (.int mc), (.ref ob)])) _
    refine XS.iadd X1.here hx rfl (hb hby d13_6) rfl ?_
    show Steps p.tables e below (T1.setTop (mkF m 7 #[.val (.ref ob), .val (.ref el)] [(.int (mc + (1 : Int32))), (.ref ob)])) _
    refine st2 _ ?_
    show Steps p.tables e below (T2.setTop (mkF m 10 #[.val (.ref ob), .val (.ref el)] [])) _
    refine XS.aloadN X2.here hx rfl (hb hby d13_10) rfl rfl ?_
    show Steps p.tables e below (T2.setTop (mkF m 11 #[.val (.ref ob), .val (.ref el)] [(.ref ob)])) _
    refine XS.aloadN X2.here hx rfl (hb hby d13_11) rfl rfl ?_
    show Steps p.tables e below (T2.setTop (mkF m 12 #[.val (.ref ob), .val (.ref el)] [(.ref el), (.ref ob)])) _
    refine XS.aloadN X2.here hx rfl (hb hby d13_12) rfl rfl ?_
    show Steps p.tables e below (T2.setTop (mkF m 13 #[.val (.ref ob), .val (.ref el)] [(.ref ob), (.ref el), (.ref ob)])) _
    refine st4 _ ?_
    show Steps p.tables e below (T4.setTop (mkF m 16 #[.val (.ref ob), .val (.ref el)] [(.ref de), (.ref el), (.ref ob)])) _
    refine XS.aloadN X4.here hx rfl (hb hby d13_16) rfl rfl ?_
    show Steps p.tables e below (T4.setTop (mkF m 17 #[.val (.ref ob), .val (.ref el)] [(.ref ob), (.ref de), (.ref el), (.ref ob)])) _
    refine st6 _ ?_
    show Steps p.tables e below (T6.setTop (mkF m 20 #[.val (.ref ob), .val (.ref el)] [(.int (0 : Int32)), (.ref de), (.ref el), (.ref ob)])) _
    refine st7.trans ?_
    show Steps p.tables e below (T7.setTop (mkF m 23 #[.val (.ref ob), .val (.ref el)] [])) _
    refine XS.iconst X7.here hx rfl (hb hby d13_23) ?_
    show Steps p.tables e below (T7.setTop (mkF m 24 #[.val (.ref ob), .val (.ref el)] [(.int (1 : Int32))])) _
    exact retN X7 hx (t := .boolean) Bd.returns (by simp) (hb hby d13_24) hr
  · show Q_rmA0 Z ob el de kd mc h0 n0 _ T7.heap _
    exact ⟨nb_7, ka_7, rfl, N7, (Nat.le_trans (Nat.le_trans (Nat.le_refl h0.size) (Keep.of_wr W2).1) gb7_0), (((Keep.refl h0 [ob]).wr W2 (Or.inl (List.mem_of_getElem? (i := 0) rfl))).trans Kp7 (allS (Or.inl (List.mem_of_getElem? (i := 0) rfl)) all0)), Fq7_0, Fq7_1, Fq7_2, Fq7_3, Fq7_4, Pq7_0⟩
def Q_rmH1 (Z : State) (ob : Addr) (el : Addr) (da : Addr) (ka : ClassId) (mc : Int32) (h0 : Heap) (n0 : Nat) (v : Option Value) (h : Heap) (L : List Loc) : Prop := v = none ∧ Fr n0 L ∧ Keep h0 h [ob, da] ∧ Exa Z h ob "java/util/ArrayList" ∧ Fld Z h ob "java/util/AbstractList" "modCount" "I" (.int mc) ∧ Fld Z h ob "java/util/ArrayList" "elementData" "[Ljava/lang/Object;" (.ref da) ∧ Fld Z h ob "java/util/ArrayList" "size" "I" (.int (2 : Int32)) ∧ Arv Z h da ka (.object "java/lang/Object") (10 : Int32) [(.ref el), (.ref el), .null, .null, .null, .null, .null, .null, .null, .null] .null
theorem ef_rmH1 (m : MethodId) (ob : Addr) (el : Addr) (da : Addr) : entryFrame m #[(.ref ob), (.ref el), (.ref da), (.int (1 : Int32))] 4 = mkF m 0 #[.val (.ref ob), .val (.ref el), .val (.ref da), .val (.int (1 : Int32))] [] := by first | (simp [entryFrame, mkF, argsToLocals, Value.category]; done) | rfl
set_option maxRecDepth 65536 in
set_option maxHeartbeats 40000000 in
theorem rmH1 (l : Launch) (Z : State) (a0 : Array Value) (hw : ∀ d ∈ tables_1, d.before a0 Z = true) (ws : List Jvm.Cond) (ob : Addr) (el : Addr) (da : Addr) (ka : ClassId) (mc : Int32) (h0 : Heap) (n0 : Nat) (Z0 : n0 ≤ h0.size) (F_modCount_ob : Fld Z h0 ob "java/util/AbstractList" "modCount" "I" (.int mc)) (E_ob : Exa Z h0 ob "java/util/ArrayList") (F_elementData_ob : Fld Z h0 ob "java/util/ArrayList" "elementData" "[Ljava/lang/Object;" (.ref da)) (F_size_ob : Fld Z h0 ob "java/util/ArrayList" "size" "I" (.int (1 : Int32))) (V_da : Arv Z h0 da ka (.object "java/lang/Object") (10 : Int32) [(.ref el), .null, .null, .null, .null, .null, .null, .null, .null, .null] .null) (hov : Ovr Z ka "java/lang/Object") (E_el : Exa Z h0 el "com/example/sortition/sortition/Element") (g_da : n0 ≤ da) (ne_ob_da : ob ≠ da) (g_ob : n0 ≤ ob) :
    MetFree l (⟨"java/util/ArrayList", "add", "(Ljava/lang/Object;[Ljava/lang/Object;I)V"⟩ : MethodName) (head1 (Jvm.Cond.code (⟨"java/util/ArrayList", "add", "(Ljava/lang/Object;[Ljava/lang/Object;I)V"⟩ : MethodName) jdk_38_method_24_code 4 none :: ws) ({ frames := 0, cells := 0, slots := 0, locals := 0 } : Room)) (fun a U => a = #[(.ref ob), (.ref el), (.ref da), (.int (1 : Int32))] ∧ Z.Warmed39 U.vm ∧ U.heap = h0) (fun _ _ _ _ _ => True) (fun _ U o U' => ∃ v L, o = .returned v ∧ Q_rmH1 Z ob el da ka mc h0 n0 v U'.heap L ∧ FrameEnd U o U' L ({ frames := 0, cells := 0, slots := 0, locals := 0 } : Room).cells ({ frames := 0, cells := 0, slots := 0, locals := 0 } : Room).slots) := by
  refine MetFree.of_bodySF (plainFor_of_name pn_7) hisR ?_
  intro p e s m args below meth c s₁ Bd hml0 hP hK
  obtain ⟨rfl, hZ, hh⟩ := hP
  have hx := Bd.exec
  have hby := Bd.bytes
  have hml : c.maxLocals = 4 := hml0
  have hown : s.vm.findClass "java/util/ArrayList" = some m.cls := findClass_of_methodNamed Bd.named
  have hnm := (name_of_methodNamed Bd.named Bd.method).1
  have X0 : Stand p l e ({ frames := 0, cells := 0, slots := 0, locals := 0 } : Room) s m #[(.ref ob), (.ref el), (.ref da), (.int (1 : Int32))] below meth c s₁ [] 0 0 := Stand.of_body Bd
  have e0 : s₁.heap = h0 := by rw [← hh, Bd.state]; rfl
  have N0 := Fr.nil n0
  have pre0 : ∀ t, Steps p.tables e below (s₁.setTop (mkF m 0 #[.val (.ref ob), .val (.ref el), .val (.ref da), .val (.int (1 : Int32))] [])) t → Steps p.tables e below (s₁.setTop (entryFrame m #[(.ref ob), (.ref el), (.ref da), (.int (1 : Int32))] 4)) t := fun t k => castTop (ef_rmH1 m ob el da) k
  have Vc1 := V_da
  obtain ⟨cl1, Ar1, -, S1, M1, -, -⟩ := Vc1
  have Vc2 := V_da
  obtain ⟨cl2, Ar2, q2, S2, M2, H2, G2⟩ := Vc2
  have hin2 : ¬ ((1 : Int32) < 0 ∨ cl2.slots.size ≤ ((1 : Int32)).toNatClampNeg) := inb_of S2 ⟨by decide, by decide⟩
  obtain ⟨T2, h2, X2, e2, W2, st2⟩ := stR X0 hx hZ e0 Ar2 (j := (1 : Int32)) hin2 rfl (Sto.ofV Ar2 q2 hov (Ins.of_exa E_el (ow hw 103 rfl))) (g := (mkF m 14 #[.val (.ref ob), .val (.ref el), .val (.ref da), .val (.int (1 : Int32))] [(.ref el), (.int (1 : Int32)), (.ref da)])) rfl rfl (hb hby d12_14)
  have V2 : Arv Z h2 da ka (.object "java/lang/Object") (10 : Int32) [(.ref el), (.ref el), .null, .null, .null, .null, .null, .null, .null, .null] .null := Arv.set Ar2 q2 S2 M2 H2 G2 rfl W2 1 rfl (Nat.le_of_ble_eq_true rfl)
  have N2 := Fr.snoc X2 N0 g_da
  have f3 : Fld Z h2 ob "java/util/ArrayList" "size" "I" (.int (1 : Int32)) := (F_size_ob.other W2 (Or.inl ne_ob_da))
  have f4 : Exa Z h2 ob "java/util/ArrayList" := (E_ob.wr W2)
  obtain ⟨T5, h5, X5, e5, W5, st5⟩ := putF X2 hx hZ hown (host := "") (Or.inl (ow hw 80 rfl)) Via.refl e2 f3 f4 (Or.inl (ow hw 81 rfl)) (ow hw 50 rfl) (ty := .int) (by decide) rfl rfl (g := (mkF m 19 #[.val (.ref ob), .val (.ref el), .val (.ref da), .val (.int (1 : Int32))] [(.int (2 : Int32)), (.ref ob)])) rfl rfl (hb hby d12_19)
  have Fw5 := f3.same W5
  have N5 := Fr.snoc X5 N2 g_ob
  have f6 : Exa Z h5 ob "java/util/ArrayList" := (f4.wr W5)
  have f7 : Fld Z h5 ob "java/util/AbstractList" "modCount" "I" (.int mc) := ((F_modCount_ob.other W2 (Or.inl ne_ob_da)).other W5 (Or.inr (slot_ne (Or.inl (ow hw 69 rfl)) (Or.inl (ow hw 81 rfl)) (by decide) (t := .int) (t' := .int) (by decide) (by decide))))
  have f8 : Fld Z h5 ob "java/util/ArrayList" "elementData" "[Ljava/lang/Object;" (.ref da) := ((F_elementData_ob.other W2 (Or.inl ne_ob_da)).other W5 (Or.inr (slot_ne (Or.inl (ow hw 72 rfl)) (Or.inl (ow hw 81 rfl)) (by decide) (t := (.array (.object "java/lang/Object"))) (t' := .int) (by decide) (by decide))))
  have f9 : Arv Z h5 da ka (.object "java/lang/Object") (10 : Int32) [(.ref el), (.ref el), .null, .null, .null, .null, .null, .null, .null, .null] .null := (V2.other W5 (Ne.symm ne_ob_da))
  obtain ⟨fs, hr, hrun, hended, hW, hsame⟩ := X5.leave (v := none) (fun _ => rfl)
  refine ⟨_, _, pre0 _ ?_, hrun, hended, _, _, rfl, ?_, ⟨_, rfl⟩, hW, hsame.mono (by decide) (by decide)⟩
  · show Steps p.tables e below (s₁.setTop (mkF m 0 #[.val (.ref ob), .val (.ref el), .val (.ref da), .val (.int (1 : Int32))] [])) _
    refine XS.iloadN X0.here hx rfl (hb hby d12_0) rfl ?_
    show Steps p.tables e below (s₁.setTop (mkF m 1 #[.val (.ref ob), .val (.ref el), .val (.ref da), .val (.int (1 : Int32))] [(.int (1 : Int32))])) _
    refine XS.aloadN X0.here hx rfl (hb hby d12_1) rfl rfl ?_
    show Steps p.tables e below (s₁.setTop (mkF m 2 #[.val (.ref ob), .val (.ref el), .val (.ref da), .val (.int (1 : Int32))] [(.ref da), (.int (1 : Int32))])) _
    refine X0.arraylength hx (cell := cl1) (by rw [e0]; exact Ar1.1) (State.isArrayOf_alike hZ.alike Ar1.2.1) (g := (mkF m 2 #[.val (.ref ob), .val (.ref el), .val (.ref da), .val (.int (1 : Int32))] [(.ref da), (.int (1 : Int32))])) rfl (rest := [(.int (1 : Int32))]) rfl (hb hby d12_2) _ ?_
    rw [len_of S1 M1]
    show Steps p.tables e below (s₁.setTop (mkF m 3 #[.val (.ref ob), .val (.ref el), .val (.ref da), .val (.int (1 : Int32))] [(.int (10 : Int32)), (.int (1 : Int32))])) _
    refine XS.icmpYes X0.here hx rfl (pc0 := 3) (pc' := 11) rfl (hb hby d12_3) rfl (feq (by decide : ¬ ((1 : Int32) = (10 : Int32)))).2 (by decide) (by decide) ?_
    show Steps p.tables e below (s₁.setTop (mkF m 11 #[.val (.ref ob), .val (.ref el), .val (.ref da), .val (.int (1 : Int32))] [])) _
    refine XS.aloadN X0.here hx rfl (hb hby d12_11) rfl rfl ?_
    show Steps p.tables e below (s₁.setTop (mkF m 12 #[.val (.ref ob), .val (.ref el), .val (.ref da), .val (.int (1 : Int32))] [(.ref da)])) _
    refine XS.iloadN X0.here hx rfl (hb hby d12_12) rfl ?_
    show Steps p.tables e below (s₁.setTop (mkF m 13 #[.val (.ref ob), .val (.ref el), .val (.ref da), .val (.int (1 : Int32))] [(.int (1 : Int32)), (.ref da)])) _
    refine XS.aloadN X0.here hx rfl (hb hby d12_13) rfl rfl ?_
    show Steps p.tables e below (s₁.setTop (mkF m 14 #[.val (.ref ob), .val (.ref el), .val (.ref da), .val (.int (1 : Int32))] [(.ref el), (.int (1 : Int32)), (.ref da)])) _
    refine st2 _ ?_
    show Steps p.tables e below (T2.setTop (mkF m 15 #[.val (.ref ob), .val (.ref el), .val (.ref da), .val (.int (1 : Int32))] [])) _
    refine XS.aloadN X2.here hx rfl (hb hby d12_15) rfl rfl ?_
    show Steps p.tables e below (T2.setTop (mkF m 16 #[.val (.ref ob), .val (.ref el), .val (.ref da), .val (.int (1 : Int32))] [(.ref ob)])) _
    refine XS.iloadN X2.here hx rfl (hb hby d12_16) rfl ?_
    show Steps p.tables e below (T2.setTop (mkF m 17 #[.val (.ref ob), .val (.ref el), .val (.ref da), .val (.int (1 : Int32))] [(.int (1 : Int32)), (.ref ob)])) _
    refine XS.iconst X2.here hx rfl (hb hby d12_17) ?_
    show Steps p.tables e below (T2.setTop (mkF m 18 #[.val (.ref ob), .val (.ref el), .val (.ref da), .val (.int (1 : Int32))] [(.int (1 : Int32)), (.int (1 : Int32)), (.ref ob)])) _
    refine XS.iadd X2.here hx rfl (hb hby d12_18) rfl ?_
    show Steps p.tables e below (T2.setTop (mkF m 19 #[.val (.ref ob), .val (.ref el), .val (.ref da), .val (.int (1 : Int32))] [(.int ((1 : Int32) + (1 : Int32))), (.ref ob)])) _
    rw [show ((1 : Int32) + (1 : Int32)) = (2 : Int32) from by decide]
    show Steps p.tables e below (T2.setTop (mkF m 19 #[.val (.ref ob), .val (.ref el), .val (.ref da), .val (.int (1 : Int32))] [(.int (2 : Int32)), (.ref ob)])) _
    refine st5 _ ?_
    show Steps p.tables e below (T5.setTop (mkF m 22 #[.val (.ref ob), .val (.ref el), .val (.ref da), .val (.int (1 : Int32))] [])) _
    exact X5.returnOut hx Bd.returns (hb hby d12_22) hr
  · show Q_rmH1 Z ob el da ka mc h0 n0 _ T5.heap _
    rw [e5]
    exact ⟨rfl, N5, (((Keep.refl h0 [ob, da]).wr W2 (Or.inl (List.mem_of_getElem? (i := 1) rfl))).wr W5 (Or.inl (List.mem_of_getElem? (i := 0) rfl))), f6, f7, f8, Fw5, f9⟩
def Q_rmA1 (Z : State) (ob : Addr) (el : Addr) (da : Addr) (ka : ClassId) (mc : Int32) (h0 : Heap) (n0 : Nat) (v : Option Value) (h : Heap) (L : List Loc) : Prop := v = some (.int (1 : Int32)) ∧ Fr n0 L ∧ Keep h0 h [ob, da] ∧ Exa Z h ob "java/util/ArrayList" ∧ Fld Z h ob "java/util/AbstractList" "modCount" "I" (.int (mc + (1 : Int32))) ∧ Fld Z h ob "java/util/ArrayList" "elementData" "[Ljava/lang/Object;" (.ref da) ∧ Fld Z h ob "java/util/ArrayList" "size" "I" (.int (2 : Int32)) ∧ Arv Z h da ka (.object "java/lang/Object") (10 : Int32) [(.ref el), (.ref el), .null, .null, .null, .null, .null, .null, .null, .null] .null
theorem ef_rmA1 (m : MethodId) (ob : Addr) (el : Addr) : entryFrame m #[(.ref ob), (.ref el)] 2 = mkF m 0 #[.val (.ref ob), .val (.ref el)] [] := by first | (simp [entryFrame, mkF, argsToLocals, Value.category]; done) | rfl
set_option maxRecDepth 65536 in
set_option maxHeartbeats 40000000 in
theorem rmA1 (l : Launch) (Z : State) (a0 : Array Value) (hw : ∀ d ∈ tables_1, d.before a0 Z = true) (ws : List Jvm.Cond) (ob : Addr) (el : Addr) (da : Addr) (ka : ClassId) (mc : Int32) (h0 : Heap) (n0 : Nat) (Z0 : n0 ≤ h0.size) (F_modCount_ob : Fld Z h0 ob "java/util/AbstractList" "modCount" "I" (.int mc)) (E_ob : Exa Z h0 ob "java/util/ArrayList") (F_elementData_ob : Fld Z h0 ob "java/util/ArrayList" "elementData" "[Ljava/lang/Object;" (.ref da)) (F_size_ob : Fld Z h0 ob "java/util/ArrayList" "size" "I" (.int (1 : Int32))) (V_da : Arv Z h0 da ka (.object "java/lang/Object") (10 : Int32) [(.ref el), .null, .null, .null, .null, .null, .null, .null, .null, .null] .null) (hov : Ovr Z ka "java/lang/Object") (E_el : Exa Z h0 el "com/example/sortition/sortition/Element") (g_ob : n0 ≤ ob) (ne_da_ob : da ≠ ob) (g_da : n0 ≤ da) :
    MetFree l (⟨"java/util/ArrayList", "add", "(Ljava/lang/Object;)Z"⟩ : MethodName) (head1 (Jvm.Cond.code (⟨"java/util/ArrayList", "add", "(Ljava/lang/Object;)Z"⟩ : MethodName) jdk_38_method_25_code 2 (some .boolean) :: ws) ({ frames := 1, cells := 0, slots := 0, locals := 15 } : Room)) (fun a U => a = #[(.ref ob), (.ref el)] ∧ Z.Warmed39 U.vm ∧ U.heap = h0) (fun _ _ _ _ _ => True) (fun _ U o U' => ∃ v L, o = .returned v ∧ Q_rmA1 Z ob el da ka mc h0 n0 v U'.heap L ∧ FrameEnd U o U' L ({ frames := 1, cells := 0, slots := 0, locals := 15 } : Room).cells ({ frames := 1, cells := 0, slots := 0, locals := 15 } : Room).slots) := by
  refine MetFree.of_bodySF (plainFor_of_name pn_7) hisR ?_
  intro p e s m args below meth c s₁ Bd hml0 hP hK
  obtain ⟨rfl, hZ, hh⟩ := hP
  have hx := Bd.exec
  have hby := Bd.bytes
  have hml : c.maxLocals = 2 := hml0
  have hown : s.vm.findClass "java/util/ArrayList" = some m.cls := findClass_of_methodNamed Bd.named
  have hnm := (name_of_methodNamed Bd.named Bd.method).1
  have X0 : Stand p l e ({ frames := 1, cells := 0, slots := 0, locals := 15 } : Room) s m #[(.ref ob), (.ref el)] below meth c s₁ [] 0 0 := Stand.of_body Bd
  have e0 : s₁.heap = h0 := by rw [← hh, Bd.state]; rfl
  have N0 := Fr.nil n0
  have pre0 : ∀ t, Steps p.tables e below (s₁.setTop (mkF m 0 #[.val (.ref ob), .val (.ref el)] [])) t → Steps p.tables e below (s₁.setTop (entryFrame m #[(.ref ob), (.ref el)] 2)) t := fun t k => castTop (ef_rmA1 m ob el) k
  obtain ⟨T1, X1, e1, st1⟩ := getF X0 hx hZ hown (host := "") (Or.inl (ow hw 78 rfl)) (Via.of (ow hw 79 rfl)) e0 F_modCount_ob (g := (mkF m 2 #[.val (.ref ob), .val (.ref el)] [(.ref ob), (.ref ob)])) rfl rfl (hb hby d13_2)
  obtain ⟨T2, h2, X2, e2, W2, st2⟩ := putF X1 hx hZ hown (host := "") (Or.inl (ow hw 78 rfl)) (Via.of (ow hw 79 rfl)) e1 F_modCount_ob E_ob (Or.inl (ow hw 69 rfl)) (ow hw 50 rfl) (ty := .int) (by decide) rfl rfl (g := (mkF m 7 #[.val (.ref ob), .val (.ref el)] [(.int (mc + (1 : Int32))), (.ref ob)])) rfl rfl (hb hby d13_7)
  have Fw2 := F_modCount_ob.same W2
  have N2 := Fr.snoc X2 N0 g_ob
  have f3 : Fld Z h2 ob "java/util/ArrayList" "elementData" "[Ljava/lang/Object;" (.ref da) := (F_elementData_ob.other W2 (Or.inr (slot_ne (Or.inl (ow hw 72 rfl)) (Or.inl (ow hw 69 rfl)) (by decide) (t := (.array (.object "java/lang/Object"))) (t' := .int) (by decide) (by decide))))
  obtain ⟨T4, X4, e4, st4⟩ := getF X2 hx hZ hown (host := "") (Or.inl (ow hw 71 rfl)) Via.refl e2 f3 (g := (mkF m 13 #[.val (.ref ob), .val (.ref el)] [(.ref ob), (.ref el), (.ref ob)])) rfl rfl (hb hby d13_13)
  have f5 : Fld Z h2 ob "java/util/ArrayList" "size" "I" (.int (1 : Int32)) := (F_size_ob.other W2 (Or.inr (slot_ne (Or.inl (ow hw 81 rfl)) (Or.inl (ow hw 69 rfl)) (by decide) (t := .int) (t' := .int) (by decide) (by decide))))
  obtain ⟨T6, X6, e6, st6⟩ := getF X4 hx hZ hown (host := "") (Or.inl (ow hw 80 rfl)) Via.refl e4 f5 (g := (mkF m 17 #[.val (.ref ob), .val (.ref el)] [(.ref ob), (.ref da), (.ref el), (.ref ob)])) rfl rfl (hb hby d13_17)
  have f8 : Exa Z h2 ob "java/util/ArrayList" := (E_ob.wr W2)
  have f9 : Arv Z h2 da ka (.object "java/lang/Object") (10 : Int32) [(.ref el), .null, .null, .null, .null, .null, .null, .null, .null, .null] .null := (V_da.other W2 ne_da_ob)
  have f10 : Exa Z h2 el "com/example/sortition/sortition/Element" := (E_el.wr W2)
  obtain ⟨cq7, q7, q7'⟩ := f8.cell
  obtain ⟨_, _, ⟨T7, L7, k7, n7⟩, -, X7, ⟨Lc7, hQ7, l7, y7, z7⟩, st7⟩ := X6.privateBack hx (y := (⟨"java/util/ArrayList", "add", "(Ljava/lang/Object;[Ljava/lang/Object;I)V"⟩ : MethodName)) hown (mvT hZ (ow hw 82 rfl)) (mvT hZ (ow hw 83 rfl)) (mvT hZ (ow hw 85 rfl)) (Cond.privateMethod_at (mvP hZ (ow hw 84 rfl) (args := #[]))) (mvT hZ (ow hw 86 rfl)) (by decide) (backOf (W := 0) (rmH1 l Z a0 hw [] ob el da ka (mc + (1 : Int32)) h2 n0 (Nat.le_trans Z0 (Keep.of_wr W2).1) Fw2 f8 f3 f5 f9 hov f10 g_da (Ne.symm ne_da_ob) g_ob) hZ (ow hw 86 rfl) (ow hw 51 rfl) (by decide) (by decide)) (g := (mkF m 20 #[.val (.ref ob), .val (.ref el)] [(.int (1 : Int32)), (.ref da), (.ref el), (.ref ob)])) rfl (by rw [hml]; rfl) (Steps.refl _) (a := ob) (by rw [e6]; exact q7) q7' (argsL := [(.ref el), (.ref da), (.int (1 : Int32))]) (rest := []) (lenOf pd_6 rfl) rfl (by show 2 * 0 + _ ≤ _; exact Nat.le_of_eq rfl) (hb hby d13_20) (fun _ _ => ⟨rfl, e6, (by decide : 0 + 0 ≤ _), (by decide : 0 + 0 ≤ _)⟩)
  dsimp only [Pt.U, Pt.locs, Pt.cells, Pt.slots] at X7 l7 y7 z7 st7 hQ7
  subst l7 y7 z7
  obtain ⟨rfl, Nq7, Kp7, Fq7_0, Fq7_1, Fq7_2, Fq7_3, Fq7_4⟩ := hQ7
  have N7 := Fr.app N2 Nq7
  obtain ⟨fs, hr, hrun, hended, hW, hsame⟩ := X7.leave (v := some (.int (1 : Int32))) (fun h => by rw [Bd.returns] at h; cases h)
  refine ⟨_, _, pre0 _ ?_, hrun, hended, _, _, rfl, ?_, ⟨_, rfl⟩, hW, hsame.mono (by decide) (by decide)⟩
  · show Steps p.tables e below (s₁.setTop (mkF m 0 #[.val (.ref ob), .val (.ref el)] [])) _
    refine XS.aloadN X0.here hx rfl (hb hby d13_0) rfl rfl ?_
    show Steps p.tables e below (s₁.setTop (mkF m 1 #[.val (.ref ob), .val (.ref el)] [(.ref ob)])) _
    refine XS.dup X0.here hx rfl (hb hby d13_1) rfl rfl ?_
    show Steps p.tables e below (s₁.setTop (mkF m 2 #[.val (.ref ob), .val (.ref el)] [(.ref ob), (.ref ob)])) _
    refine st1 _ ?_
    show Steps p.tables e below (T1.setTop (mkF m 5 #[.val (.ref ob), .val (.ref el)] [(.int mc), (.ref ob)])) _
    refine XS.iconst X1.here hx rfl (hb hby d13_5) ?_
    show Steps p.tables e below (T1.setTop (mkF m 6 #[.val (.ref ob), .val (.ref el)] [(.int (1 : Int32)), (.int mc), (.ref ob)])) _
    refine XS.iadd X1.here hx rfl (hb hby d13_6) rfl ?_
    show Steps p.tables e below (T1.setTop (mkF m 7 #[.val (.ref ob), .val (.ref el)] [(.int (mc + (1 : Int32))), (.ref ob)])) _
    refine st2 _ ?_
    show Steps p.tables e below (T2.setTop (mkF m 10 #[.val (.ref ob), .val (.ref el)] [])) _
    refine XS.aloadN X2.here hx rfl (hb hby d13_10) rfl rfl ?_
    show Steps p.tables e below (T2.setTop (mkF m 11 #[.val (.ref ob), .val (.ref el)] [(.ref ob)])) _
    refine XS.aloadN X2.here hx rfl (hb hby d13_11) rfl rfl ?_
    show Steps p.tables e below (T2.setTop (mkF m 12 #[.val (.ref ob), .val (.ref el)] [(.ref el), (.ref ob)])) _
    refine XS.aloadN X2.here hx rfl (hb hby d13_12) rfl rfl ?_
    show Steps p.tables e below (T2.setTop (mkF m 13 #[.val (.ref ob), .val (.ref el)] [(.ref ob), (.ref el), (.ref ob)])) _
    refine st4 _ ?_
    show Steps p.tables e below (T4.setTop (mkF m 16 #[.val (.ref ob), .val (.ref el)] [(.ref da), (.ref el), (.ref ob)])) _
    refine XS.aloadN X4.here hx rfl (hb hby d13_16) rfl rfl ?_
    show Steps p.tables e below (T4.setTop (mkF m 17 #[.val (.ref ob), .val (.ref el)] [(.ref ob), (.ref da), (.ref el), (.ref ob)])) _
    refine st6 _ ?_
    show Steps p.tables e below (T6.setTop (mkF m 20 #[.val (.ref ob), .val (.ref el)] [(.int (1 : Int32)), (.ref da), (.ref el), (.ref ob)])) _
    refine st7.trans ?_
    show Steps p.tables e below (T7.setTop (mkF m 23 #[.val (.ref ob), .val (.ref el)] [])) _
    refine XS.iconst X7.here hx rfl (hb hby d13_23) ?_
    show Steps p.tables e below (T7.setTop (mkF m 24 #[.val (.ref ob), .val (.ref el)] [(.int (1 : Int32))])) _
    exact retN X7 hx (t := .boolean) Bd.returns (by simp) (hb hby d13_24) hr
  · show Q_rmA1 Z ob el da ka mc h0 n0 _ T7.heap _
    exact ⟨rfl, N7, (((Keep.refl h0 [ob, da]).wr W2 (Or.inl (List.mem_of_getElem? (i := 0) rfl))).trans Kp7 (allS (Or.inl (List.mem_of_getElem? (i := 0) rfl)) (allS (Or.inl (List.mem_of_getElem? (i := 1) rfl)) all0))), Fq7_0, Fq7_1, Fq7_2, Fq7_3, Fq7_4⟩
def Q_rmH2 (Z : State) (ob : Addr) (el : Addr) (da : Addr) (ka : ClassId) (mc : Int32) (h0 : Heap) (n0 : Nat) (v : Option Value) (h : Heap) (L : List Loc) : Prop := v = none ∧ Fr n0 L ∧ Keep h0 h [ob, da] ∧ Exa Z h ob "java/util/ArrayList" ∧ Fld Z h ob "java/util/AbstractList" "modCount" "I" (.int mc) ∧ Fld Z h ob "java/util/ArrayList" "elementData" "[Ljava/lang/Object;" (.ref da) ∧ Fld Z h ob "java/util/ArrayList" "size" "I" (.int (3 : Int32)) ∧ Arv Z h da ka (.object "java/lang/Object") (10 : Int32) [(.ref el), (.ref el), (.ref el), .null, .null, .null, .null, .null, .null, .null] .null
theorem ef_rmH2 (m : MethodId) (ob : Addr) (el : Addr) (da : Addr) : entryFrame m #[(.ref ob), (.ref el), (.ref da), (.int (2 : Int32))] 4 = mkF m 0 #[.val (.ref ob), .val (.ref el), .val (.ref da), .val (.int (2 : Int32))] [] := by first | (simp [entryFrame, mkF, argsToLocals, Value.category]; done) | rfl
set_option maxRecDepth 65536 in
set_option maxHeartbeats 40000000 in
theorem rmH2 (l : Launch) (Z : State) (a0 : Array Value) (hw : ∀ d ∈ tables_1, d.before a0 Z = true) (ws : List Jvm.Cond) (ob : Addr) (el : Addr) (da : Addr) (ka : ClassId) (mc : Int32) (h0 : Heap) (n0 : Nat) (Z0 : n0 ≤ h0.size) (F_modCount_ob : Fld Z h0 ob "java/util/AbstractList" "modCount" "I" (.int mc)) (E_ob : Exa Z h0 ob "java/util/ArrayList") (F_elementData_ob : Fld Z h0 ob "java/util/ArrayList" "elementData" "[Ljava/lang/Object;" (.ref da)) (F_size_ob : Fld Z h0 ob "java/util/ArrayList" "size" "I" (.int (2 : Int32))) (V_da : Arv Z h0 da ka (.object "java/lang/Object") (10 : Int32) [(.ref el), (.ref el), .null, .null, .null, .null, .null, .null, .null, .null] .null) (hov : Ovr Z ka "java/lang/Object") (E_el : Exa Z h0 el "com/example/sortition/sortition/Element") (g_da : n0 ≤ da) (ne_ob_da : ob ≠ da) (g_ob : n0 ≤ ob) :
    MetFree l (⟨"java/util/ArrayList", "add", "(Ljava/lang/Object;[Ljava/lang/Object;I)V"⟩ : MethodName) (head1 (Jvm.Cond.code (⟨"java/util/ArrayList", "add", "(Ljava/lang/Object;[Ljava/lang/Object;I)V"⟩ : MethodName) jdk_38_method_24_code 4 none :: ws) ({ frames := 0, cells := 0, slots := 0, locals := 0 } : Room)) (fun a U => a = #[(.ref ob), (.ref el), (.ref da), (.int (2 : Int32))] ∧ Z.Warmed39 U.vm ∧ U.heap = h0) (fun _ _ _ _ _ => True) (fun _ U o U' => ∃ v L, o = .returned v ∧ Q_rmH2 Z ob el da ka mc h0 n0 v U'.heap L ∧ FrameEnd U o U' L ({ frames := 0, cells := 0, slots := 0, locals := 0 } : Room).cells ({ frames := 0, cells := 0, slots := 0, locals := 0 } : Room).slots) := by
  refine MetFree.of_bodySF (plainFor_of_name pn_7) hisR ?_
  intro p e s m args below meth c s₁ Bd hml0 hP hK
  obtain ⟨rfl, hZ, hh⟩ := hP
  have hx := Bd.exec
  have hby := Bd.bytes
  have hml : c.maxLocals = 4 := hml0
  have hown : s.vm.findClass "java/util/ArrayList" = some m.cls := findClass_of_methodNamed Bd.named
  have hnm := (name_of_methodNamed Bd.named Bd.method).1
  have X0 : Stand p l e ({ frames := 0, cells := 0, slots := 0, locals := 0 } : Room) s m #[(.ref ob), (.ref el), (.ref da), (.int (2 : Int32))] below meth c s₁ [] 0 0 := Stand.of_body Bd
  have e0 : s₁.heap = h0 := by rw [← hh, Bd.state]; rfl
  have N0 := Fr.nil n0
  have pre0 : ∀ t, Steps p.tables e below (s₁.setTop (mkF m 0 #[.val (.ref ob), .val (.ref el), .val (.ref da), .val (.int (2 : Int32))] [])) t → Steps p.tables e below (s₁.setTop (entryFrame m #[(.ref ob), (.ref el), (.ref da), (.int (2 : Int32))] 4)) t := fun t k => castTop (ef_rmH2 m ob el da) k
  have Vc1 := V_da
  obtain ⟨cl1, Ar1, -, S1, M1, -, -⟩ := Vc1
  have Vc2 := V_da
  obtain ⟨cl2, Ar2, q2, S2, M2, H2, G2⟩ := Vc2
  have hin2 : ¬ ((2 : Int32) < 0 ∨ cl2.slots.size ≤ ((2 : Int32)).toNatClampNeg) := inb_of S2 ⟨by decide, by decide⟩
  obtain ⟨T2, h2, X2, e2, W2, st2⟩ := stR X0 hx hZ e0 Ar2 (j := (2 : Int32)) hin2 rfl (Sto.ofV Ar2 q2 hov (Ins.of_exa E_el (ow hw 103 rfl))) (g := (mkF m 14 #[.val (.ref ob), .val (.ref el), .val (.ref da), .val (.int (2 : Int32))] [(.ref el), (.int (2 : Int32)), (.ref da)])) rfl rfl (hb hby d12_14)
  have V2 : Arv Z h2 da ka (.object "java/lang/Object") (10 : Int32) [(.ref el), (.ref el), (.ref el), .null, .null, .null, .null, .null, .null, .null] .null := Arv.set Ar2 q2 S2 M2 H2 G2 rfl W2 2 rfl (Nat.le_of_ble_eq_true rfl)
  have N2 := Fr.snoc X2 N0 g_da
  have f3 : Fld Z h2 ob "java/util/ArrayList" "size" "I" (.int (2 : Int32)) := (F_size_ob.other W2 (Or.inl ne_ob_da))
  have f4 : Exa Z h2 ob "java/util/ArrayList" := (E_ob.wr W2)
  obtain ⟨T5, h5, X5, e5, W5, st5⟩ := putF X2 hx hZ hown (host := "") (Or.inl (ow hw 80 rfl)) Via.refl e2 f3 f4 (Or.inl (ow hw 81 rfl)) (ow hw 50 rfl) (ty := .int) (by decide) rfl rfl (g := (mkF m 19 #[.val (.ref ob), .val (.ref el), .val (.ref da), .val (.int (2 : Int32))] [(.int (3 : Int32)), (.ref ob)])) rfl rfl (hb hby d12_19)
  have Fw5 := f3.same W5
  have N5 := Fr.snoc X5 N2 g_ob
  have f6 : Exa Z h5 ob "java/util/ArrayList" := (f4.wr W5)
  have f7 : Fld Z h5 ob "java/util/AbstractList" "modCount" "I" (.int mc) := ((F_modCount_ob.other W2 (Or.inl ne_ob_da)).other W5 (Or.inr (slot_ne (Or.inl (ow hw 69 rfl)) (Or.inl (ow hw 81 rfl)) (by decide) (t := .int) (t' := .int) (by decide) (by decide))))
  have f8 : Fld Z h5 ob "java/util/ArrayList" "elementData" "[Ljava/lang/Object;" (.ref da) := ((F_elementData_ob.other W2 (Or.inl ne_ob_da)).other W5 (Or.inr (slot_ne (Or.inl (ow hw 72 rfl)) (Or.inl (ow hw 81 rfl)) (by decide) (t := (.array (.object "java/lang/Object"))) (t' := .int) (by decide) (by decide))))
  have f9 : Arv Z h5 da ka (.object "java/lang/Object") (10 : Int32) [(.ref el), (.ref el), (.ref el), .null, .null, .null, .null, .null, .null, .null] .null := (V2.other W5 (Ne.symm ne_ob_da))
  obtain ⟨fs, hr, hrun, hended, hW, hsame⟩ := X5.leave (v := none) (fun _ => rfl)
  refine ⟨_, _, pre0 _ ?_, hrun, hended, _, _, rfl, ?_, ⟨_, rfl⟩, hW, hsame.mono (by decide) (by decide)⟩
  · show Steps p.tables e below (s₁.setTop (mkF m 0 #[.val (.ref ob), .val (.ref el), .val (.ref da), .val (.int (2 : Int32))] [])) _
    refine XS.iloadN X0.here hx rfl (hb hby d12_0) rfl ?_
    show Steps p.tables e below (s₁.setTop (mkF m 1 #[.val (.ref ob), .val (.ref el), .val (.ref da), .val (.int (2 : Int32))] [(.int (2 : Int32))])) _
    refine XS.aloadN X0.here hx rfl (hb hby d12_1) rfl rfl ?_
    show Steps p.tables e below (s₁.setTop (mkF m 2 #[.val (.ref ob), .val (.ref el), .val (.ref da), .val (.int (2 : Int32))] [(.ref da), (.int (2 : Int32))])) _
    refine X0.arraylength hx (cell := cl1) (by rw [e0]; exact Ar1.1) (State.isArrayOf_alike hZ.alike Ar1.2.1) (g := (mkF m 2 #[.val (.ref ob), .val (.ref el), .val (.ref da), .val (.int (2 : Int32))] [(.ref da), (.int (2 : Int32))])) rfl (rest := [(.int (2 : Int32))]) rfl (hb hby d12_2) _ ?_
    rw [len_of S1 M1]
    show Steps p.tables e below (s₁.setTop (mkF m 3 #[.val (.ref ob), .val (.ref el), .val (.ref da), .val (.int (2 : Int32))] [(.int (10 : Int32)), (.int (2 : Int32))])) _
    refine XS.icmpYes X0.here hx rfl (pc0 := 3) (pc' := 11) rfl (hb hby d12_3) rfl (feq (by decide : ¬ ((2 : Int32) = (10 : Int32)))).2 (by decide) (by decide) ?_
    show Steps p.tables e below (s₁.setTop (mkF m 11 #[.val (.ref ob), .val (.ref el), .val (.ref da), .val (.int (2 : Int32))] [])) _
    refine XS.aloadN X0.here hx rfl (hb hby d12_11) rfl rfl ?_
    show Steps p.tables e below (s₁.setTop (mkF m 12 #[.val (.ref ob), .val (.ref el), .val (.ref da), .val (.int (2 : Int32))] [(.ref da)])) _
    refine XS.iloadN X0.here hx rfl (hb hby d12_12) rfl ?_
    show Steps p.tables e below (s₁.setTop (mkF m 13 #[.val (.ref ob), .val (.ref el), .val (.ref da), .val (.int (2 : Int32))] [(.int (2 : Int32)), (.ref da)])) _
    refine XS.aloadN X0.here hx rfl (hb hby d12_13) rfl rfl ?_
    show Steps p.tables e below (s₁.setTop (mkF m 14 #[.val (.ref ob), .val (.ref el), .val (.ref da), .val (.int (2 : Int32))] [(.ref el), (.int (2 : Int32)), (.ref da)])) _
    refine st2 _ ?_
    show Steps p.tables e below (T2.setTop (mkF m 15 #[.val (.ref ob), .val (.ref el), .val (.ref da), .val (.int (2 : Int32))] [])) _
    refine XS.aloadN X2.here hx rfl (hb hby d12_15) rfl rfl ?_
    show Steps p.tables e below (T2.setTop (mkF m 16 #[.val (.ref ob), .val (.ref el), .val (.ref da), .val (.int (2 : Int32))] [(.ref ob)])) _
    refine XS.iloadN X2.here hx rfl (hb hby d12_16) rfl ?_
    show Steps p.tables e below (T2.setTop (mkF m 17 #[.val (.ref ob), .val (.ref el), .val (.ref da), .val (.int (2 : Int32))] [(.int (2 : Int32)), (.ref ob)])) _
    refine XS.iconst X2.here hx rfl (hb hby d12_17) ?_
    show Steps p.tables e below (T2.setTop (mkF m 18 #[.val (.ref ob), .val (.ref el), .val (.ref da), .val (.int (2 : Int32))] [(.int (1 : Int32)), (.int (2 : Int32)), (.ref ob)])) _
    refine XS.iadd X2.here hx rfl (hb hby d12_18) rfl ?_
    show Steps p.tables e below (T2.setTop (mkF m 19 #[.val (.ref ob), .val (.ref el), .val (.ref da), .val (.int (2 : Int32))] [(.int ((2 : Int32) + (1 : Int32))), (.ref ob)])) _
    rw [show ((2 : Int32) + (1 : Int32)) = (3 : Int32) from by decide]
    show Steps p.tables e below (T2.setTop (mkF m 19 #[.val (.ref ob), .val (.ref el), .val (.ref da), .val (.int (2 : Int32))] [(.int (3 : Int32)), (.ref ob)])) _
    refine st5 _ ?_
    show Steps p.tables e below (T5.setTop (mkF m 22 #[.val (.ref ob), .val (.ref el), .val (.ref da), .val (.int (2 : Int32))] [])) _
    exact X5.returnOut hx Bd.returns (hb hby d12_22) hr
  · show Q_rmH2 Z ob el da ka mc h0 n0 _ T5.heap _
    rw [e5]
    exact ⟨rfl, N5, (((Keep.refl h0 [ob, da]).wr W2 (Or.inl (List.mem_of_getElem? (i := 1) rfl))).wr W5 (Or.inl (List.mem_of_getElem? (i := 0) rfl))), f6, f7, f8, Fw5, f9⟩
def Q_rmA2 (Z : State) (ob : Addr) (el : Addr) (da : Addr) (ka : ClassId) (mc : Int32) (h0 : Heap) (n0 : Nat) (v : Option Value) (h : Heap) (L : List Loc) : Prop := v = some (.int (1 : Int32)) ∧ Fr n0 L ∧ Keep h0 h [ob, da] ∧ Exa Z h ob "java/util/ArrayList" ∧ Fld Z h ob "java/util/AbstractList" "modCount" "I" (.int (mc + (1 : Int32))) ∧ Fld Z h ob "java/util/ArrayList" "elementData" "[Ljava/lang/Object;" (.ref da) ∧ Fld Z h ob "java/util/ArrayList" "size" "I" (.int (3 : Int32)) ∧ Arv Z h da ka (.object "java/lang/Object") (10 : Int32) [(.ref el), (.ref el), (.ref el), .null, .null, .null, .null, .null, .null, .null] .null
theorem ef_rmA2 (m : MethodId) (ob : Addr) (el : Addr) : entryFrame m #[(.ref ob), (.ref el)] 2 = mkF m 0 #[.val (.ref ob), .val (.ref el)] [] := by first | (simp [entryFrame, mkF, argsToLocals, Value.category]; done) | rfl
set_option maxRecDepth 65536 in
set_option maxHeartbeats 40000000 in
theorem rmA2 (l : Launch) (Z : State) (a0 : Array Value) (hw : ∀ d ∈ tables_1, d.before a0 Z = true) (ws : List Jvm.Cond) (ob : Addr) (el : Addr) (da : Addr) (ka : ClassId) (mc : Int32) (h0 : Heap) (n0 : Nat) (Z0 : n0 ≤ h0.size) (F_modCount_ob : Fld Z h0 ob "java/util/AbstractList" "modCount" "I" (.int mc)) (E_ob : Exa Z h0 ob "java/util/ArrayList") (F_elementData_ob : Fld Z h0 ob "java/util/ArrayList" "elementData" "[Ljava/lang/Object;" (.ref da)) (F_size_ob : Fld Z h0 ob "java/util/ArrayList" "size" "I" (.int (2 : Int32))) (V_da : Arv Z h0 da ka (.object "java/lang/Object") (10 : Int32) [(.ref el), (.ref el), .null, .null, .null, .null, .null, .null, .null, .null] .null) (hov : Ovr Z ka "java/lang/Object") (E_el : Exa Z h0 el "com/example/sortition/sortition/Element") (g_ob : n0 ≤ ob) (ne_da_ob : da ≠ ob) (g_da : n0 ≤ da) :
    MetFree l (⟨"java/util/ArrayList", "add", "(Ljava/lang/Object;)Z"⟩ : MethodName) (head1 (Jvm.Cond.code (⟨"java/util/ArrayList", "add", "(Ljava/lang/Object;)Z"⟩ : MethodName) jdk_38_method_25_code 2 (some .boolean) :: ws) ({ frames := 1, cells := 0, slots := 0, locals := 15 } : Room)) (fun a U => a = #[(.ref ob), (.ref el)] ∧ Z.Warmed39 U.vm ∧ U.heap = h0) (fun _ _ _ _ _ => True) (fun _ U o U' => ∃ v L, o = .returned v ∧ Q_rmA2 Z ob el da ka mc h0 n0 v U'.heap L ∧ FrameEnd U o U' L ({ frames := 1, cells := 0, slots := 0, locals := 15 } : Room).cells ({ frames := 1, cells := 0, slots := 0, locals := 15 } : Room).slots) := by
  refine MetFree.of_bodySF (plainFor_of_name pn_7) hisR ?_
  intro p e s m args below meth c s₁ Bd hml0 hP hK
  obtain ⟨rfl, hZ, hh⟩ := hP
  have hx := Bd.exec
  have hby := Bd.bytes
  have hml : c.maxLocals = 2 := hml0
  have hown : s.vm.findClass "java/util/ArrayList" = some m.cls := findClass_of_methodNamed Bd.named
  have hnm := (name_of_methodNamed Bd.named Bd.method).1
  have X0 : Stand p l e ({ frames := 1, cells := 0, slots := 0, locals := 15 } : Room) s m #[(.ref ob), (.ref el)] below meth c s₁ [] 0 0 := Stand.of_body Bd
  have e0 : s₁.heap = h0 := by rw [← hh, Bd.state]; rfl
  have N0 := Fr.nil n0
  have pre0 : ∀ t, Steps p.tables e below (s₁.setTop (mkF m 0 #[.val (.ref ob), .val (.ref el)] [])) t → Steps p.tables e below (s₁.setTop (entryFrame m #[(.ref ob), (.ref el)] 2)) t := fun t k => castTop (ef_rmA2 m ob el) k
  obtain ⟨T1, X1, e1, st1⟩ := getF X0 hx hZ hown (host := "") (Or.inl (ow hw 78 rfl)) (Via.of (ow hw 79 rfl)) e0 F_modCount_ob (g := (mkF m 2 #[.val (.ref ob), .val (.ref el)] [(.ref ob), (.ref ob)])) rfl rfl (hb hby d13_2)
  obtain ⟨T2, h2, X2, e2, W2, st2⟩ := putF X1 hx hZ hown (host := "") (Or.inl (ow hw 78 rfl)) (Via.of (ow hw 79 rfl)) e1 F_modCount_ob E_ob (Or.inl (ow hw 69 rfl)) (ow hw 50 rfl) (ty := .int) (by decide) rfl rfl (g := (mkF m 7 #[.val (.ref ob), .val (.ref el)] [(.int (mc + (1 : Int32))), (.ref ob)])) rfl rfl (hb hby d13_7)
  have Fw2 := F_modCount_ob.same W2
  have N2 := Fr.snoc X2 N0 g_ob
  have f3 : Fld Z h2 ob "java/util/ArrayList" "elementData" "[Ljava/lang/Object;" (.ref da) := (F_elementData_ob.other W2 (Or.inr (slot_ne (Or.inl (ow hw 72 rfl)) (Or.inl (ow hw 69 rfl)) (by decide) (t := (.array (.object "java/lang/Object"))) (t' := .int) (by decide) (by decide))))
  obtain ⟨T4, X4, e4, st4⟩ := getF X2 hx hZ hown (host := "") (Or.inl (ow hw 71 rfl)) Via.refl e2 f3 (g := (mkF m 13 #[.val (.ref ob), .val (.ref el)] [(.ref ob), (.ref el), (.ref ob)])) rfl rfl (hb hby d13_13)
  have f5 : Fld Z h2 ob "java/util/ArrayList" "size" "I" (.int (2 : Int32)) := (F_size_ob.other W2 (Or.inr (slot_ne (Or.inl (ow hw 81 rfl)) (Or.inl (ow hw 69 rfl)) (by decide) (t := .int) (t' := .int) (by decide) (by decide))))
  obtain ⟨T6, X6, e6, st6⟩ := getF X4 hx hZ hown (host := "") (Or.inl (ow hw 80 rfl)) Via.refl e4 f5 (g := (mkF m 17 #[.val (.ref ob), .val (.ref el)] [(.ref ob), (.ref da), (.ref el), (.ref ob)])) rfl rfl (hb hby d13_17)
  have f8 : Exa Z h2 ob "java/util/ArrayList" := (E_ob.wr W2)
  have f9 : Arv Z h2 da ka (.object "java/lang/Object") (10 : Int32) [(.ref el), (.ref el), .null, .null, .null, .null, .null, .null, .null, .null] .null := (V_da.other W2 ne_da_ob)
  have f10 : Exa Z h2 el "com/example/sortition/sortition/Element" := (E_el.wr W2)
  obtain ⟨cq7, q7, q7'⟩ := f8.cell
  obtain ⟨_, _, ⟨T7, L7, k7, n7⟩, -, X7, ⟨Lc7, hQ7, l7, y7, z7⟩, st7⟩ := X6.privateBack hx (y := (⟨"java/util/ArrayList", "add", "(Ljava/lang/Object;[Ljava/lang/Object;I)V"⟩ : MethodName)) hown (mvT hZ (ow hw 82 rfl)) (mvT hZ (ow hw 83 rfl)) (mvT hZ (ow hw 85 rfl)) (Cond.privateMethod_at (mvP hZ (ow hw 84 rfl) (args := #[]))) (mvT hZ (ow hw 86 rfl)) (by decide) (backOf (W := 0) (rmH2 l Z a0 hw [] ob el da ka (mc + (1 : Int32)) h2 n0 (Nat.le_trans Z0 (Keep.of_wr W2).1) Fw2 f8 f3 f5 f9 hov f10 g_da (Ne.symm ne_da_ob) g_ob) hZ (ow hw 86 rfl) (ow hw 51 rfl) (by decide) (by decide)) (g := (mkF m 20 #[.val (.ref ob), .val (.ref el)] [(.int (2 : Int32)), (.ref da), (.ref el), (.ref ob)])) rfl (by rw [hml]; rfl) (Steps.refl _) (a := ob) (by rw [e6]; exact q7) q7' (argsL := [(.ref el), (.ref da), (.int (2 : Int32))]) (rest := []) (lenOf pd_6 rfl) rfl (by show 2 * 0 + _ ≤ _; exact Nat.le_of_eq rfl) (hb hby d13_20) (fun _ _ => ⟨rfl, e6, (by decide : 0 + 0 ≤ _), (by decide : 0 + 0 ≤ _)⟩)
  dsimp only [Pt.U, Pt.locs, Pt.cells, Pt.slots] at X7 l7 y7 z7 st7 hQ7
  subst l7 y7 z7
  obtain ⟨rfl, Nq7, Kp7, Fq7_0, Fq7_1, Fq7_2, Fq7_3, Fq7_4⟩ := hQ7
  have N7 := Fr.app N2 Nq7
  obtain ⟨fs, hr, hrun, hended, hW, hsame⟩ := X7.leave (v := some (.int (1 : Int32))) (fun h => by rw [Bd.returns] at h; cases h)
  refine ⟨_, _, pre0 _ ?_, hrun, hended, _, _, rfl, ?_, ⟨_, rfl⟩, hW, hsame.mono (by decide) (by decide)⟩
  · show Steps p.tables e below (s₁.setTop (mkF m 0 #[.val (.ref ob), .val (.ref el)] [])) _
    refine XS.aloadN X0.here hx rfl (hb hby d13_0) rfl rfl ?_
    show Steps p.tables e below (s₁.setTop (mkF m 1 #[.val (.ref ob), .val (.ref el)] [(.ref ob)])) _
    refine XS.dup X0.here hx rfl (hb hby d13_1) rfl rfl ?_
    show Steps p.tables e below (s₁.setTop (mkF m 2 #[.val (.ref ob), .val (.ref el)] [(.ref ob), (.ref ob)])) _
    refine st1 _ ?_
    show Steps p.tables e below (T1.setTop (mkF m 5 #[.val (.ref ob), .val (.ref el)] [(.int mc), (.ref ob)])) _
    refine XS.iconst X1.here hx rfl (hb hby d13_5) ?_
    show Steps p.tables e below (T1.setTop (mkF m 6 #[.val (.ref ob), .val (.ref el)] [(.int (1 : Int32)), (.int mc), (.ref ob)])) _
    refine XS.iadd X1.here hx rfl (hb hby d13_6) rfl ?_
    show Steps p.tables e below (T1.setTop (mkF m 7 #[.val (.ref ob), .val (.ref el)] [(.int (mc + (1 : Int32))), (.ref ob)])) _
    refine st2 _ ?_
    show Steps p.tables e below (T2.setTop (mkF m 10 #[.val (.ref ob), .val (.ref el)] [])) _
    refine XS.aloadN X2.here hx rfl (hb hby d13_10) rfl rfl ?_
    show Steps p.tables e below (T2.setTop (mkF m 11 #[.val (.ref ob), .val (.ref el)] [(.ref ob)])) _
    refine XS.aloadN X2.here hx rfl (hb hby d13_11) rfl rfl ?_
    show Steps p.tables e below (T2.setTop (mkF m 12 #[.val (.ref ob), .val (.ref el)] [(.ref el), (.ref ob)])) _
    refine XS.aloadN X2.here hx rfl (hb hby d13_12) rfl rfl ?_
    show Steps p.tables e below (T2.setTop (mkF m 13 #[.val (.ref ob), .val (.ref el)] [(.ref ob), (.ref el), (.ref ob)])) _
    refine st4 _ ?_
    show Steps p.tables e below (T4.setTop (mkF m 16 #[.val (.ref ob), .val (.ref el)] [(.ref da), (.ref el), (.ref ob)])) _
    refine XS.aloadN X4.here hx rfl (hb hby d13_16) rfl rfl ?_
    show Steps p.tables e below (T4.setTop (mkF m 17 #[.val (.ref ob), .val (.ref el)] [(.ref ob), (.ref da), (.ref el), (.ref ob)])) _
    refine st6 _ ?_
    show Steps p.tables e below (T6.setTop (mkF m 20 #[.val (.ref ob), .val (.ref el)] [(.int (2 : Int32)), (.ref da), (.ref el), (.ref ob)])) _
    refine st7.trans ?_
    show Steps p.tables e below (T7.setTop (mkF m 23 #[.val (.ref ob), .val (.ref el)] [])) _
    refine XS.iconst X7.here hx rfl (hb hby d13_23) ?_
    show Steps p.tables e below (T7.setTop (mkF m 24 #[.val (.ref ob), .val (.ref el)] [(.int (1 : Int32))])) _
    exact retN X7 hx (t := .boolean) Bd.returns (by simp) (hb hby d13_24) hr
  · show Q_rmA2 Z ob el da ka mc h0 n0 _ T7.heap _
    exact ⟨rfl, N7, (((Keep.refl h0 [ob, da]).wr W2 (Or.inl (List.mem_of_getElem? (i := 0) rfl))).trans Kp7 (allS (Or.inl (List.mem_of_getElem? (i := 0) rfl)) (allS (Or.inl (List.mem_of_getElem? (i := 1) rfl)) all0))), Fq7_0, Fq7_1, Fq7_2, Fq7_3, Fq7_4⟩
def Q_rmH3 (Z : State) (ob : Addr) (el : Addr) (da : Addr) (ka : ClassId) (mc : Int32) (h0 : Heap) (n0 : Nat) (v : Option Value) (h : Heap) (L : List Loc) : Prop := v = none ∧ Fr n0 L ∧ Keep h0 h [ob, da] ∧ Exa Z h ob "java/util/ArrayList" ∧ Fld Z h ob "java/util/AbstractList" "modCount" "I" (.int mc) ∧ Fld Z h ob "java/util/ArrayList" "elementData" "[Ljava/lang/Object;" (.ref da) ∧ Fld Z h ob "java/util/ArrayList" "size" "I" (.int (4 : Int32)) ∧ Arv Z h da ka (.object "java/lang/Object") (10 : Int32) [(.ref el), (.ref el), (.ref el), (.ref el), .null, .null, .null, .null, .null, .null] .null
theorem ef_rmH3 (m : MethodId) (ob : Addr) (el : Addr) (da : Addr) : entryFrame m #[(.ref ob), (.ref el), (.ref da), (.int (3 : Int32))] 4 = mkF m 0 #[.val (.ref ob), .val (.ref el), .val (.ref da), .val (.int (3 : Int32))] [] := by first | (simp [entryFrame, mkF, argsToLocals, Value.category]; done) | rfl
set_option maxRecDepth 65536 in
set_option maxHeartbeats 40000000 in
theorem rmH3 (l : Launch) (Z : State) (a0 : Array Value) (hw : ∀ d ∈ tables_1, d.before a0 Z = true) (ws : List Jvm.Cond) (ob : Addr) (el : Addr) (da : Addr) (ka : ClassId) (mc : Int32) (h0 : Heap) (n0 : Nat) (Z0 : n0 ≤ h0.size) (F_modCount_ob : Fld Z h0 ob "java/util/AbstractList" "modCount" "I" (.int mc)) (E_ob : Exa Z h0 ob "java/util/ArrayList") (F_elementData_ob : Fld Z h0 ob "java/util/ArrayList" "elementData" "[Ljava/lang/Object;" (.ref da)) (F_size_ob : Fld Z h0 ob "java/util/ArrayList" "size" "I" (.int (3 : Int32))) (V_da : Arv Z h0 da ka (.object "java/lang/Object") (10 : Int32) [(.ref el), (.ref el), (.ref el), .null, .null, .null, .null, .null, .null, .null] .null) (hov : Ovr Z ka "java/lang/Object") (E_el : Exa Z h0 el "com/example/sortition/sortition/Element") (g_da : n0 ≤ da) (ne_ob_da : ob ≠ da) (g_ob : n0 ≤ ob) :
    MetFree l (⟨"java/util/ArrayList", "add", "(Ljava/lang/Object;[Ljava/lang/Object;I)V"⟩ : MethodName) (head1 (Jvm.Cond.code (⟨"java/util/ArrayList", "add", "(Ljava/lang/Object;[Ljava/lang/Object;I)V"⟩ : MethodName) jdk_38_method_24_code 4 none :: ws) ({ frames := 0, cells := 0, slots := 0, locals := 0 } : Room)) (fun a U => a = #[(.ref ob), (.ref el), (.ref da), (.int (3 : Int32))] ∧ Z.Warmed39 U.vm ∧ U.heap = h0) (fun _ _ _ _ _ => True) (fun _ U o U' => ∃ v L, o = .returned v ∧ Q_rmH3 Z ob el da ka mc h0 n0 v U'.heap L ∧ FrameEnd U o U' L ({ frames := 0, cells := 0, slots := 0, locals := 0 } : Room).cells ({ frames := 0, cells := 0, slots := 0, locals := 0 } : Room).slots) := by
  refine MetFree.of_bodySF (plainFor_of_name pn_7) hisR ?_
  intro p e s m args below meth c s₁ Bd hml0 hP hK
  obtain ⟨rfl, hZ, hh⟩ := hP
  have hx := Bd.exec
  have hby := Bd.bytes
  have hml : c.maxLocals = 4 := hml0
  have hown : s.vm.findClass "java/util/ArrayList" = some m.cls := findClass_of_methodNamed Bd.named
  have hnm := (name_of_methodNamed Bd.named Bd.method).1
  have X0 : Stand p l e ({ frames := 0, cells := 0, slots := 0, locals := 0 } : Room) s m #[(.ref ob), (.ref el), (.ref da), (.int (3 : Int32))] below meth c s₁ [] 0 0 := Stand.of_body Bd
  have e0 : s₁.heap = h0 := by rw [← hh, Bd.state]; rfl
  have N0 := Fr.nil n0
  have pre0 : ∀ t, Steps p.tables e below (s₁.setTop (mkF m 0 #[.val (.ref ob), .val (.ref el), .val (.ref da), .val (.int (3 : Int32))] [])) t → Steps p.tables e below (s₁.setTop (entryFrame m #[(.ref ob), (.ref el), (.ref da), (.int (3 : Int32))] 4)) t := fun t k => castTop (ef_rmH3 m ob el da) k
  have Vc1 := V_da
  obtain ⟨cl1, Ar1, -, S1, M1, -, -⟩ := Vc1
  have Vc2 := V_da
  obtain ⟨cl2, Ar2, q2, S2, M2, H2, G2⟩ := Vc2
  have hin2 : ¬ ((3 : Int32) < 0 ∨ cl2.slots.size ≤ ((3 : Int32)).toNatClampNeg) := inb_of S2 ⟨by decide, by decide⟩
  obtain ⟨T2, h2, X2, e2, W2, st2⟩ := stR X0 hx hZ e0 Ar2 (j := (3 : Int32)) hin2 rfl (Sto.ofV Ar2 q2 hov (Ins.of_exa E_el (ow hw 103 rfl))) (g := (mkF m 14 #[.val (.ref ob), .val (.ref el), .val (.ref da), .val (.int (3 : Int32))] [(.ref el), (.int (3 : Int32)), (.ref da)])) rfl rfl (hb hby d12_14)
  have V2 : Arv Z h2 da ka (.object "java/lang/Object") (10 : Int32) [(.ref el), (.ref el), (.ref el), (.ref el), .null, .null, .null, .null, .null, .null] .null := Arv.set Ar2 q2 S2 M2 H2 G2 rfl W2 3 rfl (Nat.le_of_ble_eq_true rfl)
  have N2 := Fr.snoc X2 N0 g_da
  have f3 : Fld Z h2 ob "java/util/ArrayList" "size" "I" (.int (3 : Int32)) := (F_size_ob.other W2 (Or.inl ne_ob_da))
  have f4 : Exa Z h2 ob "java/util/ArrayList" := (E_ob.wr W2)
  obtain ⟨T5, h5, X5, e5, W5, st5⟩ := putF X2 hx hZ hown (host := "") (Or.inl (ow hw 80 rfl)) Via.refl e2 f3 f4 (Or.inl (ow hw 81 rfl)) (ow hw 50 rfl) (ty := .int) (by decide) rfl rfl (g := (mkF m 19 #[.val (.ref ob), .val (.ref el), .val (.ref da), .val (.int (3 : Int32))] [(.int (4 : Int32)), (.ref ob)])) rfl rfl (hb hby d12_19)
  have Fw5 := f3.same W5
  have N5 := Fr.snoc X5 N2 g_ob
  have f6 : Exa Z h5 ob "java/util/ArrayList" := (f4.wr W5)
  have f7 : Fld Z h5 ob "java/util/AbstractList" "modCount" "I" (.int mc) := ((F_modCount_ob.other W2 (Or.inl ne_ob_da)).other W5 (Or.inr (slot_ne (Or.inl (ow hw 69 rfl)) (Or.inl (ow hw 81 rfl)) (by decide) (t := .int) (t' := .int) (by decide) (by decide))))
  have f8 : Fld Z h5 ob "java/util/ArrayList" "elementData" "[Ljava/lang/Object;" (.ref da) := ((F_elementData_ob.other W2 (Or.inl ne_ob_da)).other W5 (Or.inr (slot_ne (Or.inl (ow hw 72 rfl)) (Or.inl (ow hw 81 rfl)) (by decide) (t := (.array (.object "java/lang/Object"))) (t' := .int) (by decide) (by decide))))
  have f9 : Arv Z h5 da ka (.object "java/lang/Object") (10 : Int32) [(.ref el), (.ref el), (.ref el), (.ref el), .null, .null, .null, .null, .null, .null] .null := (V2.other W5 (Ne.symm ne_ob_da))
  obtain ⟨fs, hr, hrun, hended, hW, hsame⟩ := X5.leave (v := none) (fun _ => rfl)
  refine ⟨_, _, pre0 _ ?_, hrun, hended, _, _, rfl, ?_, ⟨_, rfl⟩, hW, hsame.mono (by decide) (by decide)⟩
  · show Steps p.tables e below (s₁.setTop (mkF m 0 #[.val (.ref ob), .val (.ref el), .val (.ref da), .val (.int (3 : Int32))] [])) _
    refine XS.iloadN X0.here hx rfl (hb hby d12_0) rfl ?_
    show Steps p.tables e below (s₁.setTop (mkF m 1 #[.val (.ref ob), .val (.ref el), .val (.ref da), .val (.int (3 : Int32))] [(.int (3 : Int32))])) _
    refine XS.aloadN X0.here hx rfl (hb hby d12_1) rfl rfl ?_
    show Steps p.tables e below (s₁.setTop (mkF m 2 #[.val (.ref ob), .val (.ref el), .val (.ref da), .val (.int (3 : Int32))] [(.ref da), (.int (3 : Int32))])) _
    refine X0.arraylength hx (cell := cl1) (by rw [e0]; exact Ar1.1) (State.isArrayOf_alike hZ.alike Ar1.2.1) (g := (mkF m 2 #[.val (.ref ob), .val (.ref el), .val (.ref da), .val (.int (3 : Int32))] [(.ref da), (.int (3 : Int32))])) rfl (rest := [(.int (3 : Int32))]) rfl (hb hby d12_2) _ ?_
    rw [len_of S1 M1]
    show Steps p.tables e below (s₁.setTop (mkF m 3 #[.val (.ref ob), .val (.ref el), .val (.ref da), .val (.int (3 : Int32))] [(.int (10 : Int32)), (.int (3 : Int32))])) _
    refine XS.icmpYes X0.here hx rfl (pc0 := 3) (pc' := 11) rfl (hb hby d12_3) rfl (feq (by decide : ¬ ((3 : Int32) = (10 : Int32)))).2 (by decide) (by decide) ?_
    show Steps p.tables e below (s₁.setTop (mkF m 11 #[.val (.ref ob), .val (.ref el), .val (.ref da), .val (.int (3 : Int32))] [])) _
    refine XS.aloadN X0.here hx rfl (hb hby d12_11) rfl rfl ?_
    show Steps p.tables e below (s₁.setTop (mkF m 12 #[.val (.ref ob), .val (.ref el), .val (.ref da), .val (.int (3 : Int32))] [(.ref da)])) _
    refine XS.iloadN X0.here hx rfl (hb hby d12_12) rfl ?_
    show Steps p.tables e below (s₁.setTop (mkF m 13 #[.val (.ref ob), .val (.ref el), .val (.ref da), .val (.int (3 : Int32))] [(.int (3 : Int32)), (.ref da)])) _
    refine XS.aloadN X0.here hx rfl (hb hby d12_13) rfl rfl ?_
    show Steps p.tables e below (s₁.setTop (mkF m 14 #[.val (.ref ob), .val (.ref el), .val (.ref da), .val (.int (3 : Int32))] [(.ref el), (.int (3 : Int32)), (.ref da)])) _
    refine st2 _ ?_
    show Steps p.tables e below (T2.setTop (mkF m 15 #[.val (.ref ob), .val (.ref el), .val (.ref da), .val (.int (3 : Int32))] [])) _
    refine XS.aloadN X2.here hx rfl (hb hby d12_15) rfl rfl ?_
    show Steps p.tables e below (T2.setTop (mkF m 16 #[.val (.ref ob), .val (.ref el), .val (.ref da), .val (.int (3 : Int32))] [(.ref ob)])) _
    refine XS.iloadN X2.here hx rfl (hb hby d12_16) rfl ?_
    show Steps p.tables e below (T2.setTop (mkF m 17 #[.val (.ref ob), .val (.ref el), .val (.ref da), .val (.int (3 : Int32))] [(.int (3 : Int32)), (.ref ob)])) _
    refine XS.iconst X2.here hx rfl (hb hby d12_17) ?_
    show Steps p.tables e below (T2.setTop (mkF m 18 #[.val (.ref ob), .val (.ref el), .val (.ref da), .val (.int (3 : Int32))] [(.int (1 : Int32)), (.int (3 : Int32)), (.ref ob)])) _
    refine XS.iadd X2.here hx rfl (hb hby d12_18) rfl ?_
    show Steps p.tables e below (T2.setTop (mkF m 19 #[.val (.ref ob), .val (.ref el), .val (.ref da), .val (.int (3 : Int32))] [(.int ((3 : Int32) + (1 : Int32))), (.ref ob)])) _
    rw [show ((3 : Int32) + (1 : Int32)) = (4 : Int32) from by decide]
    show Steps p.tables e below (T2.setTop (mkF m 19 #[.val (.ref ob), .val (.ref el), .val (.ref da), .val (.int (3 : Int32))] [(.int (4 : Int32)), (.ref ob)])) _
    refine st5 _ ?_
    show Steps p.tables e below (T5.setTop (mkF m 22 #[.val (.ref ob), .val (.ref el), .val (.ref da), .val (.int (3 : Int32))] [])) _
    exact X5.returnOut hx Bd.returns (hb hby d12_22) hr
  · show Q_rmH3 Z ob el da ka mc h0 n0 _ T5.heap _
    rw [e5]
    exact ⟨rfl, N5, (((Keep.refl h0 [ob, da]).wr W2 (Or.inl (List.mem_of_getElem? (i := 1) rfl))).wr W5 (Or.inl (List.mem_of_getElem? (i := 0) rfl))), f6, f7, f8, Fw5, f9⟩
def Q_rmA3 (Z : State) (ob : Addr) (el : Addr) (da : Addr) (ka : ClassId) (mc : Int32) (h0 : Heap) (n0 : Nat) (v : Option Value) (h : Heap) (L : List Loc) : Prop := v = some (.int (1 : Int32)) ∧ Fr n0 L ∧ Keep h0 h [ob, da] ∧ Exa Z h ob "java/util/ArrayList" ∧ Fld Z h ob "java/util/AbstractList" "modCount" "I" (.int (mc + (1 : Int32))) ∧ Fld Z h ob "java/util/ArrayList" "elementData" "[Ljava/lang/Object;" (.ref da) ∧ Fld Z h ob "java/util/ArrayList" "size" "I" (.int (4 : Int32)) ∧ Arv Z h da ka (.object "java/lang/Object") (10 : Int32) [(.ref el), (.ref el), (.ref el), (.ref el), .null, .null, .null, .null, .null, .null] .null
theorem ef_rmA3 (m : MethodId) (ob : Addr) (el : Addr) : entryFrame m #[(.ref ob), (.ref el)] 2 = mkF m 0 #[.val (.ref ob), .val (.ref el)] [] := by first | (simp [entryFrame, mkF, argsToLocals, Value.category]; done) | rfl
set_option maxRecDepth 65536 in
set_option maxHeartbeats 40000000 in
theorem rmA3 (l : Launch) (Z : State) (a0 : Array Value) (hw : ∀ d ∈ tables_1, d.before a0 Z = true) (ws : List Jvm.Cond) (ob : Addr) (el : Addr) (da : Addr) (ka : ClassId) (mc : Int32) (h0 : Heap) (n0 : Nat) (Z0 : n0 ≤ h0.size) (F_modCount_ob : Fld Z h0 ob "java/util/AbstractList" "modCount" "I" (.int mc)) (E_ob : Exa Z h0 ob "java/util/ArrayList") (F_elementData_ob : Fld Z h0 ob "java/util/ArrayList" "elementData" "[Ljava/lang/Object;" (.ref da)) (F_size_ob : Fld Z h0 ob "java/util/ArrayList" "size" "I" (.int (3 : Int32))) (V_da : Arv Z h0 da ka (.object "java/lang/Object") (10 : Int32) [(.ref el), (.ref el), (.ref el), .null, .null, .null, .null, .null, .null, .null] .null) (hov : Ovr Z ka "java/lang/Object") (E_el : Exa Z h0 el "com/example/sortition/sortition/Element") (g_ob : n0 ≤ ob) (ne_da_ob : da ≠ ob) (g_da : n0 ≤ da) :
    MetFree l (⟨"java/util/ArrayList", "add", "(Ljava/lang/Object;)Z"⟩ : MethodName) (head1 (Jvm.Cond.code (⟨"java/util/ArrayList", "add", "(Ljava/lang/Object;)Z"⟩ : MethodName) jdk_38_method_25_code 2 (some .boolean) :: ws) ({ frames := 1, cells := 0, slots := 0, locals := 15 } : Room)) (fun a U => a = #[(.ref ob), (.ref el)] ∧ Z.Warmed39 U.vm ∧ U.heap = h0) (fun _ _ _ _ _ => True) (fun _ U o U' => ∃ v L, o = .returned v ∧ Q_rmA3 Z ob el da ka mc h0 n0 v U'.heap L ∧ FrameEnd U o U' L ({ frames := 1, cells := 0, slots := 0, locals := 15 } : Room).cells ({ frames := 1, cells := 0, slots := 0, locals := 15 } : Room).slots) := by
  refine MetFree.of_bodySF (plainFor_of_name pn_7) hisR ?_
  intro p e s m args below meth c s₁ Bd hml0 hP hK
  obtain ⟨rfl, hZ, hh⟩ := hP
  have hx := Bd.exec
  have hby := Bd.bytes
  have hml : c.maxLocals = 2 := hml0
  have hown : s.vm.findClass "java/util/ArrayList" = some m.cls := findClass_of_methodNamed Bd.named
  have hnm := (name_of_methodNamed Bd.named Bd.method).1
  have X0 : Stand p l e ({ frames := 1, cells := 0, slots := 0, locals := 15 } : Room) s m #[(.ref ob), (.ref el)] below meth c s₁ [] 0 0 := Stand.of_body Bd
  have e0 : s₁.heap = h0 := by rw [← hh, Bd.state]; rfl
  have N0 := Fr.nil n0
  have pre0 : ∀ t, Steps p.tables e below (s₁.setTop (mkF m 0 #[.val (.ref ob), .val (.ref el)] [])) t → Steps p.tables e below (s₁.setTop (entryFrame m #[(.ref ob), (.ref el)] 2)) t := fun t k => castTop (ef_rmA3 m ob el) k
  obtain ⟨T1, X1, e1, st1⟩ := getF X0 hx hZ hown (host := "") (Or.inl (ow hw 78 rfl)) (Via.of (ow hw 79 rfl)) e0 F_modCount_ob (g := (mkF m 2 #[.val (.ref ob), .val (.ref el)] [(.ref ob), (.ref ob)])) rfl rfl (hb hby d13_2)
  obtain ⟨T2, h2, X2, e2, W2, st2⟩ := putF X1 hx hZ hown (host := "") (Or.inl (ow hw 78 rfl)) (Via.of (ow hw 79 rfl)) e1 F_modCount_ob E_ob (Or.inl (ow hw 69 rfl)) (ow hw 50 rfl) (ty := .int) (by decide) rfl rfl (g := (mkF m 7 #[.val (.ref ob), .val (.ref el)] [(.int (mc + (1 : Int32))), (.ref ob)])) rfl rfl (hb hby d13_7)
  have Fw2 := F_modCount_ob.same W2
  have N2 := Fr.snoc X2 N0 g_ob
  have f3 : Fld Z h2 ob "java/util/ArrayList" "elementData" "[Ljava/lang/Object;" (.ref da) := (F_elementData_ob.other W2 (Or.inr (slot_ne (Or.inl (ow hw 72 rfl)) (Or.inl (ow hw 69 rfl)) (by decide) (t := (.array (.object "java/lang/Object"))) (t' := .int) (by decide) (by decide))))
  obtain ⟨T4, X4, e4, st4⟩ := getF X2 hx hZ hown (host := "") (Or.inl (ow hw 71 rfl)) Via.refl e2 f3 (g := (mkF m 13 #[.val (.ref ob), .val (.ref el)] [(.ref ob), (.ref el), (.ref ob)])) rfl rfl (hb hby d13_13)
  have f5 : Fld Z h2 ob "java/util/ArrayList" "size" "I" (.int (3 : Int32)) := (F_size_ob.other W2 (Or.inr (slot_ne (Or.inl (ow hw 81 rfl)) (Or.inl (ow hw 69 rfl)) (by decide) (t := .int) (t' := .int) (by decide) (by decide))))
  obtain ⟨T6, X6, e6, st6⟩ := getF X4 hx hZ hown (host := "") (Or.inl (ow hw 80 rfl)) Via.refl e4 f5 (g := (mkF m 17 #[.val (.ref ob), .val (.ref el)] [(.ref ob), (.ref da), (.ref el), (.ref ob)])) rfl rfl (hb hby d13_17)
  have f8 : Exa Z h2 ob "java/util/ArrayList" := (E_ob.wr W2)
  have f9 : Arv Z h2 da ka (.object "java/lang/Object") (10 : Int32) [(.ref el), (.ref el), (.ref el), .null, .null, .null, .null, .null, .null, .null] .null := (V_da.other W2 ne_da_ob)
  have f10 : Exa Z h2 el "com/example/sortition/sortition/Element" := (E_el.wr W2)
  obtain ⟨cq7, q7, q7'⟩ := f8.cell
  obtain ⟨_, _, ⟨T7, L7, k7, n7⟩, -, X7, ⟨Lc7, hQ7, l7, y7, z7⟩, st7⟩ := X6.privateBack hx (y := (⟨"java/util/ArrayList", "add", "(Ljava/lang/Object;[Ljava/lang/Object;I)V"⟩ : MethodName)) hown (mvT hZ (ow hw 82 rfl)) (mvT hZ (ow hw 83 rfl)) (mvT hZ (ow hw 85 rfl)) (Cond.privateMethod_at (mvP hZ (ow hw 84 rfl) (args := #[]))) (mvT hZ (ow hw 86 rfl)) (by decide) (backOf (W := 0) (rmH3 l Z a0 hw [] ob el da ka (mc + (1 : Int32)) h2 n0 (Nat.le_trans Z0 (Keep.of_wr W2).1) Fw2 f8 f3 f5 f9 hov f10 g_da (Ne.symm ne_da_ob) g_ob) hZ (ow hw 86 rfl) (ow hw 51 rfl) (by decide) (by decide)) (g := (mkF m 20 #[.val (.ref ob), .val (.ref el)] [(.int (3 : Int32)), (.ref da), (.ref el), (.ref ob)])) rfl (by rw [hml]; rfl) (Steps.refl _) (a := ob) (by rw [e6]; exact q7) q7' (argsL := [(.ref el), (.ref da), (.int (3 : Int32))]) (rest := []) (lenOf pd_6 rfl) rfl (by show 2 * 0 + _ ≤ _; exact Nat.le_of_eq rfl) (hb hby d13_20) (fun _ _ => ⟨rfl, e6, (by decide : 0 + 0 ≤ _), (by decide : 0 + 0 ≤ _)⟩)
  dsimp only [Pt.U, Pt.locs, Pt.cells, Pt.slots] at X7 l7 y7 z7 st7 hQ7
  subst l7 y7 z7
  obtain ⟨rfl, Nq7, Kp7, Fq7_0, Fq7_1, Fq7_2, Fq7_3, Fq7_4⟩ := hQ7
  have N7 := Fr.app N2 Nq7
  obtain ⟨fs, hr, hrun, hended, hW, hsame⟩ := X7.leave (v := some (.int (1 : Int32))) (fun h => by rw [Bd.returns] at h; cases h)
  refine ⟨_, _, pre0 _ ?_, hrun, hended, _, _, rfl, ?_, ⟨_, rfl⟩, hW, hsame.mono (by decide) (by decide)⟩
  · show Steps p.tables e below (s₁.setTop (mkF m 0 #[.val (.ref ob), .val (.ref el)] [])) _
    refine XS.aloadN X0.here hx rfl (hb hby d13_0) rfl rfl ?_
    show Steps p.tables e below (s₁.setTop (mkF m 1 #[.val (.ref ob), .val (.ref el)] [(.ref ob)])) _
    refine XS.dup X0.here hx rfl (hb hby d13_1) rfl rfl ?_
    show Steps p.tables e below (s₁.setTop (mkF m 2 #[.val (.ref ob), .val (.ref el)] [(.ref ob), (.ref ob)])) _
    refine st1 _ ?_
    show Steps p.tables e below (T1.setTop (mkF m 5 #[.val (.ref ob), .val (.ref el)] [(.int mc), (.ref ob)])) _
    refine XS.iconst X1.here hx rfl (hb hby d13_5) ?_
    show Steps p.tables e below (T1.setTop (mkF m 6 #[.val (.ref ob), .val (.ref el)] [(.int (1 : Int32)), (.int mc), (.ref ob)])) _
    refine XS.iadd X1.here hx rfl (hb hby d13_6) rfl ?_
    show Steps p.tables e below (T1.setTop (mkF m 7 #[.val (.ref ob), .val (.ref el)] [(.int (mc + (1 : Int32))), (.ref ob)])) _
    refine st2 _ ?_
    show Steps p.tables e below (T2.setTop (mkF m 10 #[.val (.ref ob), .val (.ref el)] [])) _
    refine XS.aloadN X2.here hx rfl (hb hby d13_10) rfl rfl ?_
    show Steps p.tables e below (T2.setTop (mkF m 11 #[.val (.ref ob), .val (.ref el)] [(.ref ob)])) _
    refine XS.aloadN X2.here hx rfl (hb hby d13_11) rfl rfl ?_
    show Steps p.tables e below (T2.setTop (mkF m 12 #[.val (.ref ob), .val (.ref el)] [(.ref el), (.ref ob)])) _
    refine XS.aloadN X2.here hx rfl (hb hby d13_12) rfl rfl ?_
    show Steps p.tables e below (T2.setTop (mkF m 13 #[.val (.ref ob), .val (.ref el)] [(.ref ob), (.ref el), (.ref ob)])) _
    refine st4 _ ?_
    show Steps p.tables e below (T4.setTop (mkF m 16 #[.val (.ref ob), .val (.ref el)] [(.ref da), (.ref el), (.ref ob)])) _
    refine XS.aloadN X4.here hx rfl (hb hby d13_16) rfl rfl ?_
    show Steps p.tables e below (T4.setTop (mkF m 17 #[.val (.ref ob), .val (.ref el)] [(.ref ob), (.ref da), (.ref el), (.ref ob)])) _
    refine st6 _ ?_
    show Steps p.tables e below (T6.setTop (mkF m 20 #[.val (.ref ob), .val (.ref el)] [(.int (3 : Int32)), (.ref da), (.ref el), (.ref ob)])) _
    refine st7.trans ?_
    show Steps p.tables e below (T7.setTop (mkF m 23 #[.val (.ref ob), .val (.ref el)] [])) _
    refine XS.iconst X7.here hx rfl (hb hby d13_23) ?_
    show Steps p.tables e below (T7.setTop (mkF m 24 #[.val (.ref ob), .val (.ref el)] [(.int (1 : Int32))])) _
    exact retN X7 hx (t := .boolean) Bd.returns (by simp) (hb hby d13_24) hr
  · show Q_rmA3 Z ob el da ka mc h0 n0 _ T7.heap _
    exact ⟨rfl, N7, (((Keep.refl h0 [ob, da]).wr W2 (Or.inl (List.mem_of_getElem? (i := 0) rfl))).trans Kp7 (allS (Or.inl (List.mem_of_getElem? (i := 0) rfl)) (allS (Or.inl (List.mem_of_getElem? (i := 1) rfl)) all0))), Fq7_0, Fq7_1, Fq7_2, Fq7_3, Fq7_4⟩
def Q_rmH4 (Z : State) (ob : Addr) (el : Addr) (da : Addr) (ka : ClassId) (mc : Int32) (h0 : Heap) (n0 : Nat) (v : Option Value) (h : Heap) (L : List Loc) : Prop := v = none ∧ Fr n0 L ∧ Keep h0 h [ob, da] ∧ Exa Z h ob "java/util/ArrayList" ∧ Fld Z h ob "java/util/AbstractList" "modCount" "I" (.int mc) ∧ Fld Z h ob "java/util/ArrayList" "elementData" "[Ljava/lang/Object;" (.ref da) ∧ Fld Z h ob "java/util/ArrayList" "size" "I" (.int (5 : Int32)) ∧ Arv Z h da ka (.object "java/lang/Object") (10 : Int32) [(.ref el), (.ref el), (.ref el), (.ref el), (.ref el), .null, .null, .null, .null, .null] .null
theorem ef_rmH4 (m : MethodId) (ob : Addr) (el : Addr) (da : Addr) : entryFrame m #[(.ref ob), (.ref el), (.ref da), (.int (4 : Int32))] 4 = mkF m 0 #[.val (.ref ob), .val (.ref el), .val (.ref da), .val (.int (4 : Int32))] [] := by first | (simp [entryFrame, mkF, argsToLocals, Value.category]; done) | rfl
set_option maxRecDepth 65536 in
set_option maxHeartbeats 40000000 in
theorem rmH4 (l : Launch) (Z : State) (a0 : Array Value) (hw : ∀ d ∈ tables_1, d.before a0 Z = true) (ws : List Jvm.Cond) (ob : Addr) (el : Addr) (da : Addr) (ka : ClassId) (mc : Int32) (h0 : Heap) (n0 : Nat) (Z0 : n0 ≤ h0.size) (F_modCount_ob : Fld Z h0 ob "java/util/AbstractList" "modCount" "I" (.int mc)) (E_ob : Exa Z h0 ob "java/util/ArrayList") (F_elementData_ob : Fld Z h0 ob "java/util/ArrayList" "elementData" "[Ljava/lang/Object;" (.ref da)) (F_size_ob : Fld Z h0 ob "java/util/ArrayList" "size" "I" (.int (4 : Int32))) (V_da : Arv Z h0 da ka (.object "java/lang/Object") (10 : Int32) [(.ref el), (.ref el), (.ref el), (.ref el), .null, .null, .null, .null, .null, .null] .null) (hov : Ovr Z ka "java/lang/Object") (E_el : Exa Z h0 el "com/example/sortition/sortition/Element") (g_da : n0 ≤ da) (ne_ob_da : ob ≠ da) (g_ob : n0 ≤ ob) :
    MetFree l (⟨"java/util/ArrayList", "add", "(Ljava/lang/Object;[Ljava/lang/Object;I)V"⟩ : MethodName) (head1 (Jvm.Cond.code (⟨"java/util/ArrayList", "add", "(Ljava/lang/Object;[Ljava/lang/Object;I)V"⟩ : MethodName) jdk_38_method_24_code 4 none :: ws) ({ frames := 0, cells := 0, slots := 0, locals := 0 } : Room)) (fun a U => a = #[(.ref ob), (.ref el), (.ref da), (.int (4 : Int32))] ∧ Z.Warmed39 U.vm ∧ U.heap = h0) (fun _ _ _ _ _ => True) (fun _ U o U' => ∃ v L, o = .returned v ∧ Q_rmH4 Z ob el da ka mc h0 n0 v U'.heap L ∧ FrameEnd U o U' L ({ frames := 0, cells := 0, slots := 0, locals := 0 } : Room).cells ({ frames := 0, cells := 0, slots := 0, locals := 0 } : Room).slots) := by
  refine MetFree.of_bodySF (plainFor_of_name pn_7) hisR ?_
  intro p e s m args below meth c s₁ Bd hml0 hP hK
  obtain ⟨rfl, hZ, hh⟩ := hP
  have hx := Bd.exec
  have hby := Bd.bytes
  have hml : c.maxLocals = 4 := hml0
  have hown : s.vm.findClass "java/util/ArrayList" = some m.cls := findClass_of_methodNamed Bd.named
  have hnm := (name_of_methodNamed Bd.named Bd.method).1
  have X0 : Stand p l e ({ frames := 0, cells := 0, slots := 0, locals := 0 } : Room) s m #[(.ref ob), (.ref el), (.ref da), (.int (4 : Int32))] below meth c s₁ [] 0 0 := Stand.of_body Bd
  have e0 : s₁.heap = h0 := by rw [← hh, Bd.state]; rfl
  have N0 := Fr.nil n0
  have pre0 : ∀ t, Steps p.tables e below (s₁.setTop (mkF m 0 #[.val (.ref ob), .val (.ref el), .val (.ref da), .val (.int (4 : Int32))] [])) t → Steps p.tables e below (s₁.setTop (entryFrame m #[(.ref ob), (.ref el), (.ref da), (.int (4 : Int32))] 4)) t := fun t k => castTop (ef_rmH4 m ob el da) k
  have Vc1 := V_da
  obtain ⟨cl1, Ar1, -, S1, M1, -, -⟩ := Vc1
  have Vc2 := V_da
  obtain ⟨cl2, Ar2, q2, S2, M2, H2, G2⟩ := Vc2
  have hin2 : ¬ ((4 : Int32) < 0 ∨ cl2.slots.size ≤ ((4 : Int32)).toNatClampNeg) := inb_of S2 ⟨by decide, by decide⟩
  obtain ⟨T2, h2, X2, e2, W2, st2⟩ := stR X0 hx hZ e0 Ar2 (j := (4 : Int32)) hin2 rfl (Sto.ofV Ar2 q2 hov (Ins.of_exa E_el (ow hw 103 rfl))) (g := (mkF m 14 #[.val (.ref ob), .val (.ref el), .val (.ref da), .val (.int (4 : Int32))] [(.ref el), (.int (4 : Int32)), (.ref da)])) rfl rfl (hb hby d12_14)
  have V2 : Arv Z h2 da ka (.object "java/lang/Object") (10 : Int32) [(.ref el), (.ref el), (.ref el), (.ref el), (.ref el), .null, .null, .null, .null, .null] .null := Arv.set Ar2 q2 S2 M2 H2 G2 rfl W2 4 rfl (Nat.le_of_ble_eq_true rfl)
  have N2 := Fr.snoc X2 N0 g_da
  have f3 : Fld Z h2 ob "java/util/ArrayList" "size" "I" (.int (4 : Int32)) := (F_size_ob.other W2 (Or.inl ne_ob_da))
  have f4 : Exa Z h2 ob "java/util/ArrayList" := (E_ob.wr W2)
  obtain ⟨T5, h5, X5, e5, W5, st5⟩ := putF X2 hx hZ hown (host := "") (Or.inl (ow hw 80 rfl)) Via.refl e2 f3 f4 (Or.inl (ow hw 81 rfl)) (ow hw 50 rfl) (ty := .int) (by decide) rfl rfl (g := (mkF m 19 #[.val (.ref ob), .val (.ref el), .val (.ref da), .val (.int (4 : Int32))] [(.int (5 : Int32)), (.ref ob)])) rfl rfl (hb hby d12_19)
  have Fw5 := f3.same W5
  have N5 := Fr.snoc X5 N2 g_ob
  have f6 : Exa Z h5 ob "java/util/ArrayList" := (f4.wr W5)
  have f7 : Fld Z h5 ob "java/util/AbstractList" "modCount" "I" (.int mc) := ((F_modCount_ob.other W2 (Or.inl ne_ob_da)).other W5 (Or.inr (slot_ne (Or.inl (ow hw 69 rfl)) (Or.inl (ow hw 81 rfl)) (by decide) (t := .int) (t' := .int) (by decide) (by decide))))
  have f8 : Fld Z h5 ob "java/util/ArrayList" "elementData" "[Ljava/lang/Object;" (.ref da) := ((F_elementData_ob.other W2 (Or.inl ne_ob_da)).other W5 (Or.inr (slot_ne (Or.inl (ow hw 72 rfl)) (Or.inl (ow hw 81 rfl)) (by decide) (t := (.array (.object "java/lang/Object"))) (t' := .int) (by decide) (by decide))))
  have f9 : Arv Z h5 da ka (.object "java/lang/Object") (10 : Int32) [(.ref el), (.ref el), (.ref el), (.ref el), (.ref el), .null, .null, .null, .null, .null] .null := (V2.other W5 (Ne.symm ne_ob_da))
  obtain ⟨fs, hr, hrun, hended, hW, hsame⟩ := X5.leave (v := none) (fun _ => rfl)
  refine ⟨_, _, pre0 _ ?_, hrun, hended, _, _, rfl, ?_, ⟨_, rfl⟩, hW, hsame.mono (by decide) (by decide)⟩
  · show Steps p.tables e below (s₁.setTop (mkF m 0 #[.val (.ref ob), .val (.ref el), .val (.ref da), .val (.int (4 : Int32))] [])) _
    refine XS.iloadN X0.here hx rfl (hb hby d12_0) rfl ?_
    show Steps p.tables e below (s₁.setTop (mkF m 1 #[.val (.ref ob), .val (.ref el), .val (.ref da), .val (.int (4 : Int32))] [(.int (4 : Int32))])) _
    refine XS.aloadN X0.here hx rfl (hb hby d12_1) rfl rfl ?_
    show Steps p.tables e below (s₁.setTop (mkF m 2 #[.val (.ref ob), .val (.ref el), .val (.ref da), .val (.int (4 : Int32))] [(.ref da), (.int (4 : Int32))])) _
    refine X0.arraylength hx (cell := cl1) (by rw [e0]; exact Ar1.1) (State.isArrayOf_alike hZ.alike Ar1.2.1) (g := (mkF m 2 #[.val (.ref ob), .val (.ref el), .val (.ref da), .val (.int (4 : Int32))] [(.ref da), (.int (4 : Int32))])) rfl (rest := [(.int (4 : Int32))]) rfl (hb hby d12_2) _ ?_
    rw [len_of S1 M1]
    show Steps p.tables e below (s₁.setTop (mkF m 3 #[.val (.ref ob), .val (.ref el), .val (.ref da), .val (.int (4 : Int32))] [(.int (10 : Int32)), (.int (4 : Int32))])) _
    refine XS.icmpYes X0.here hx rfl (pc0 := 3) (pc' := 11) rfl (hb hby d12_3) rfl (feq (by decide : ¬ ((4 : Int32) = (10 : Int32)))).2 (by decide) (by decide) ?_
    show Steps p.tables e below (s₁.setTop (mkF m 11 #[.val (.ref ob), .val (.ref el), .val (.ref da), .val (.int (4 : Int32))] [])) _
    refine XS.aloadN X0.here hx rfl (hb hby d12_11) rfl rfl ?_
    show Steps p.tables e below (s₁.setTop (mkF m 12 #[.val (.ref ob), .val (.ref el), .val (.ref da), .val (.int (4 : Int32))] [(.ref da)])) _
    refine XS.iloadN X0.here hx rfl (hb hby d12_12) rfl ?_
    show Steps p.tables e below (s₁.setTop (mkF m 13 #[.val (.ref ob), .val (.ref el), .val (.ref da), .val (.int (4 : Int32))] [(.int (4 : Int32)), (.ref da)])) _
    refine XS.aloadN X0.here hx rfl (hb hby d12_13) rfl rfl ?_
    show Steps p.tables e below (s₁.setTop (mkF m 14 #[.val (.ref ob), .val (.ref el), .val (.ref da), .val (.int (4 : Int32))] [(.ref el), (.int (4 : Int32)), (.ref da)])) _
    refine st2 _ ?_
    show Steps p.tables e below (T2.setTop (mkF m 15 #[.val (.ref ob), .val (.ref el), .val (.ref da), .val (.int (4 : Int32))] [])) _
    refine XS.aloadN X2.here hx rfl (hb hby d12_15) rfl rfl ?_
    show Steps p.tables e below (T2.setTop (mkF m 16 #[.val (.ref ob), .val (.ref el), .val (.ref da), .val (.int (4 : Int32))] [(.ref ob)])) _
    refine XS.iloadN X2.here hx rfl (hb hby d12_16) rfl ?_
    show Steps p.tables e below (T2.setTop (mkF m 17 #[.val (.ref ob), .val (.ref el), .val (.ref da), .val (.int (4 : Int32))] [(.int (4 : Int32)), (.ref ob)])) _
    refine XS.iconst X2.here hx rfl (hb hby d12_17) ?_
    show Steps p.tables e below (T2.setTop (mkF m 18 #[.val (.ref ob), .val (.ref el), .val (.ref da), .val (.int (4 : Int32))] [(.int (1 : Int32)), (.int (4 : Int32)), (.ref ob)])) _
    refine XS.iadd X2.here hx rfl (hb hby d12_18) rfl ?_
    show Steps p.tables e below (T2.setTop (mkF m 19 #[.val (.ref ob), .val (.ref el), .val (.ref da), .val (.int (4 : Int32))] [(.int ((4 : Int32) + (1 : Int32))), (.ref ob)])) _
    rw [show ((4 : Int32) + (1 : Int32)) = (5 : Int32) from by decide]
    show Steps p.tables e below (T2.setTop (mkF m 19 #[.val (.ref ob), .val (.ref el), .val (.ref da), .val (.int (4 : Int32))] [(.int (5 : Int32)), (.ref ob)])) _
    refine st5 _ ?_
    show Steps p.tables e below (T5.setTop (mkF m 22 #[.val (.ref ob), .val (.ref el), .val (.ref da), .val (.int (4 : Int32))] [])) _
    exact X5.returnOut hx Bd.returns (hb hby d12_22) hr
  · show Q_rmH4 Z ob el da ka mc h0 n0 _ T5.heap _
    rw [e5]
    exact ⟨rfl, N5, (((Keep.refl h0 [ob, da]).wr W2 (Or.inl (List.mem_of_getElem? (i := 1) rfl))).wr W5 (Or.inl (List.mem_of_getElem? (i := 0) rfl))), f6, f7, f8, Fw5, f9⟩
def Q_rmA4 (Z : State) (ob : Addr) (el : Addr) (da : Addr) (ka : ClassId) (mc : Int32) (h0 : Heap) (n0 : Nat) (v : Option Value) (h : Heap) (L : List Loc) : Prop := v = some (.int (1 : Int32)) ∧ Fr n0 L ∧ Keep h0 h [ob, da] ∧ Exa Z h ob "java/util/ArrayList" ∧ Fld Z h ob "java/util/AbstractList" "modCount" "I" (.int (mc + (1 : Int32))) ∧ Fld Z h ob "java/util/ArrayList" "elementData" "[Ljava/lang/Object;" (.ref da) ∧ Fld Z h ob "java/util/ArrayList" "size" "I" (.int (5 : Int32)) ∧ Arv Z h da ka (.object "java/lang/Object") (10 : Int32) [(.ref el), (.ref el), (.ref el), (.ref el), (.ref el), .null, .null, .null, .null, .null] .null
theorem ef_rmA4 (m : MethodId) (ob : Addr) (el : Addr) : entryFrame m #[(.ref ob), (.ref el)] 2 = mkF m 0 #[.val (.ref ob), .val (.ref el)] [] := by first | (simp [entryFrame, mkF, argsToLocals, Value.category]; done) | rfl
set_option maxRecDepth 65536 in
set_option maxHeartbeats 40000000 in
theorem rmA4 (l : Launch) (Z : State) (a0 : Array Value) (hw : ∀ d ∈ tables_1, d.before a0 Z = true) (ws : List Jvm.Cond) (ob : Addr) (el : Addr) (da : Addr) (ka : ClassId) (mc : Int32) (h0 : Heap) (n0 : Nat) (Z0 : n0 ≤ h0.size) (F_modCount_ob : Fld Z h0 ob "java/util/AbstractList" "modCount" "I" (.int mc)) (E_ob : Exa Z h0 ob "java/util/ArrayList") (F_elementData_ob : Fld Z h0 ob "java/util/ArrayList" "elementData" "[Ljava/lang/Object;" (.ref da)) (F_size_ob : Fld Z h0 ob "java/util/ArrayList" "size" "I" (.int (4 : Int32))) (V_da : Arv Z h0 da ka (.object "java/lang/Object") (10 : Int32) [(.ref el), (.ref el), (.ref el), (.ref el), .null, .null, .null, .null, .null, .null] .null) (hov : Ovr Z ka "java/lang/Object") (E_el : Exa Z h0 el "com/example/sortition/sortition/Element") (g_ob : n0 ≤ ob) (ne_da_ob : da ≠ ob) (g_da : n0 ≤ da) :
    MetFree l (⟨"java/util/ArrayList", "add", "(Ljava/lang/Object;)Z"⟩ : MethodName) (head1 (Jvm.Cond.code (⟨"java/util/ArrayList", "add", "(Ljava/lang/Object;)Z"⟩ : MethodName) jdk_38_method_25_code 2 (some .boolean) :: ws) ({ frames := 1, cells := 0, slots := 0, locals := 15 } : Room)) (fun a U => a = #[(.ref ob), (.ref el)] ∧ Z.Warmed39 U.vm ∧ U.heap = h0) (fun _ _ _ _ _ => True) (fun _ U o U' => ∃ v L, o = .returned v ∧ Q_rmA4 Z ob el da ka mc h0 n0 v U'.heap L ∧ FrameEnd U o U' L ({ frames := 1, cells := 0, slots := 0, locals := 15 } : Room).cells ({ frames := 1, cells := 0, slots := 0, locals := 15 } : Room).slots) := by
  refine MetFree.of_bodySF (plainFor_of_name pn_7) hisR ?_
  intro p e s m args below meth c s₁ Bd hml0 hP hK
  obtain ⟨rfl, hZ, hh⟩ := hP
  have hx := Bd.exec
  have hby := Bd.bytes
  have hml : c.maxLocals = 2 := hml0
  have hown : s.vm.findClass "java/util/ArrayList" = some m.cls := findClass_of_methodNamed Bd.named
  have hnm := (name_of_methodNamed Bd.named Bd.method).1
  have X0 : Stand p l e ({ frames := 1, cells := 0, slots := 0, locals := 15 } : Room) s m #[(.ref ob), (.ref el)] below meth c s₁ [] 0 0 := Stand.of_body Bd
  have e0 : s₁.heap = h0 := by rw [← hh, Bd.state]; rfl
  have N0 := Fr.nil n0
  have pre0 : ∀ t, Steps p.tables e below (s₁.setTop (mkF m 0 #[.val (.ref ob), .val (.ref el)] [])) t → Steps p.tables e below (s₁.setTop (entryFrame m #[(.ref ob), (.ref el)] 2)) t := fun t k => castTop (ef_rmA4 m ob el) k
  obtain ⟨T1, X1, e1, st1⟩ := getF X0 hx hZ hown (host := "") (Or.inl (ow hw 78 rfl)) (Via.of (ow hw 79 rfl)) e0 F_modCount_ob (g := (mkF m 2 #[.val (.ref ob), .val (.ref el)] [(.ref ob), (.ref ob)])) rfl rfl (hb hby d13_2)
  obtain ⟨T2, h2, X2, e2, W2, st2⟩ := putF X1 hx hZ hown (host := "") (Or.inl (ow hw 78 rfl)) (Via.of (ow hw 79 rfl)) e1 F_modCount_ob E_ob (Or.inl (ow hw 69 rfl)) (ow hw 50 rfl) (ty := .int) (by decide) rfl rfl (g := (mkF m 7 #[.val (.ref ob), .val (.ref el)] [(.int (mc + (1 : Int32))), (.ref ob)])) rfl rfl (hb hby d13_7)
  have Fw2 := F_modCount_ob.same W2
  have N2 := Fr.snoc X2 N0 g_ob
  have f3 : Fld Z h2 ob "java/util/ArrayList" "elementData" "[Ljava/lang/Object;" (.ref da) := (F_elementData_ob.other W2 (Or.inr (slot_ne (Or.inl (ow hw 72 rfl)) (Or.inl (ow hw 69 rfl)) (by decide) (t := (.array (.object "java/lang/Object"))) (t' := .int) (by decide) (by decide))))
  obtain ⟨T4, X4, e4, st4⟩ := getF X2 hx hZ hown (host := "") (Or.inl (ow hw 71 rfl)) Via.refl e2 f3 (g := (mkF m 13 #[.val (.ref ob), .val (.ref el)] [(.ref ob), (.ref el), (.ref ob)])) rfl rfl (hb hby d13_13)
  have f5 : Fld Z h2 ob "java/util/ArrayList" "size" "I" (.int (4 : Int32)) := (F_size_ob.other W2 (Or.inr (slot_ne (Or.inl (ow hw 81 rfl)) (Or.inl (ow hw 69 rfl)) (by decide) (t := .int) (t' := .int) (by decide) (by decide))))
  obtain ⟨T6, X6, e6, st6⟩ := getF X4 hx hZ hown (host := "") (Or.inl (ow hw 80 rfl)) Via.refl e4 f5 (g := (mkF m 17 #[.val (.ref ob), .val (.ref el)] [(.ref ob), (.ref da), (.ref el), (.ref ob)])) rfl rfl (hb hby d13_17)
  have f8 : Exa Z h2 ob "java/util/ArrayList" := (E_ob.wr W2)
  have f9 : Arv Z h2 da ka (.object "java/lang/Object") (10 : Int32) [(.ref el), (.ref el), (.ref el), (.ref el), .null, .null, .null, .null, .null, .null] .null := (V_da.other W2 ne_da_ob)
  have f10 : Exa Z h2 el "com/example/sortition/sortition/Element" := (E_el.wr W2)
  obtain ⟨cq7, q7, q7'⟩ := f8.cell
  obtain ⟨_, _, ⟨T7, L7, k7, n7⟩, -, X7, ⟨Lc7, hQ7, l7, y7, z7⟩, st7⟩ := X6.privateBack hx (y := (⟨"java/util/ArrayList", "add", "(Ljava/lang/Object;[Ljava/lang/Object;I)V"⟩ : MethodName)) hown (mvT hZ (ow hw 82 rfl)) (mvT hZ (ow hw 83 rfl)) (mvT hZ (ow hw 85 rfl)) (Cond.privateMethod_at (mvP hZ (ow hw 84 rfl) (args := #[]))) (mvT hZ (ow hw 86 rfl)) (by decide) (backOf (W := 0) (rmH4 l Z a0 hw [] ob el da ka (mc + (1 : Int32)) h2 n0 (Nat.le_trans Z0 (Keep.of_wr W2).1) Fw2 f8 f3 f5 f9 hov f10 g_da (Ne.symm ne_da_ob) g_ob) hZ (ow hw 86 rfl) (ow hw 51 rfl) (by decide) (by decide)) (g := (mkF m 20 #[.val (.ref ob), .val (.ref el)] [(.int (4 : Int32)), (.ref da), (.ref el), (.ref ob)])) rfl (by rw [hml]; rfl) (Steps.refl _) (a := ob) (by rw [e6]; exact q7) q7' (argsL := [(.ref el), (.ref da), (.int (4 : Int32))]) (rest := []) (lenOf pd_6 rfl) rfl (by show 2 * 0 + _ ≤ _; exact Nat.le_of_eq rfl) (hb hby d13_20) (fun _ _ => ⟨rfl, e6, (by decide : 0 + 0 ≤ _), (by decide : 0 + 0 ≤ _)⟩)
  dsimp only [Pt.U, Pt.locs, Pt.cells, Pt.slots] at X7 l7 y7 z7 st7 hQ7
  subst l7 y7 z7
  obtain ⟨rfl, Nq7, Kp7, Fq7_0, Fq7_1, Fq7_2, Fq7_3, Fq7_4⟩ := hQ7
  have N7 := Fr.app N2 Nq7
  obtain ⟨fs, hr, hrun, hended, hW, hsame⟩ := X7.leave (v := some (.int (1 : Int32))) (fun h => by rw [Bd.returns] at h; cases h)
  refine ⟨_, _, pre0 _ ?_, hrun, hended, _, _, rfl, ?_, ⟨_, rfl⟩, hW, hsame.mono (by decide) (by decide)⟩
  · show Steps p.tables e below (s₁.setTop (mkF m 0 #[.val (.ref ob), .val (.ref el)] [])) _
    refine XS.aloadN X0.here hx rfl (hb hby d13_0) rfl rfl ?_
    show Steps p.tables e below (s₁.setTop (mkF m 1 #[.val (.ref ob), .val (.ref el)] [(.ref ob)])) _
    refine XS.dup X0.here hx rfl (hb hby d13_1) rfl rfl ?_
    show Steps p.tables e below (s₁.setTop (mkF m 2 #[.val (.ref ob), .val (.ref el)] [(.ref ob), (.ref ob)])) _
    refine st1 _ ?_
    show Steps p.tables e below (T1.setTop (mkF m 5 #[.val (.ref ob), .val (.ref el)] [(.int mc), (.ref ob)])) _
    refine XS.iconst X1.here hx rfl (hb hby d13_5) ?_
    show Steps p.tables e below (T1.setTop (mkF m 6 #[.val (.ref ob), .val (.ref el)] [(.int (1 : Int32)), (.int mc), (.ref ob)])) _
    refine XS.iadd X1.here hx rfl (hb hby d13_6) rfl ?_
    show Steps p.tables e below (T1.setTop (mkF m 7 #[.val (.ref ob), .val (.ref el)] [(.int (mc + (1 : Int32))), (.ref ob)])) _
    refine st2 _ ?_
    show Steps p.tables e below (T2.setTop (mkF m 10 #[.val (.ref ob), .val (.ref el)] [])) _
    refine XS.aloadN X2.here hx rfl (hb hby d13_10) rfl rfl ?_
    show Steps p.tables e below (T2.setTop (mkF m 11 #[.val (.ref ob), .val (.ref el)] [(.ref ob)])) _
    refine XS.aloadN X2.here hx rfl (hb hby d13_11) rfl rfl ?_
    show Steps p.tables e below (T2.setTop (mkF m 12 #[.val (.ref ob), .val (.ref el)] [(.ref el), (.ref ob)])) _
    refine XS.aloadN X2.here hx rfl (hb hby d13_12) rfl rfl ?_
    show Steps p.tables e below (T2.setTop (mkF m 13 #[.val (.ref ob), .val (.ref el)] [(.ref ob), (.ref el), (.ref ob)])) _
    refine st4 _ ?_
    show Steps p.tables e below (T4.setTop (mkF m 16 #[.val (.ref ob), .val (.ref el)] [(.ref da), (.ref el), (.ref ob)])) _
    refine XS.aloadN X4.here hx rfl (hb hby d13_16) rfl rfl ?_
    show Steps p.tables e below (T4.setTop (mkF m 17 #[.val (.ref ob), .val (.ref el)] [(.ref ob), (.ref da), (.ref el), (.ref ob)])) _
    refine st6 _ ?_
    show Steps p.tables e below (T6.setTop (mkF m 20 #[.val (.ref ob), .val (.ref el)] [(.int (4 : Int32)), (.ref da), (.ref el), (.ref ob)])) _
    refine st7.trans ?_
    show Steps p.tables e below (T7.setTop (mkF m 23 #[.val (.ref ob), .val (.ref el)] [])) _
    refine XS.iconst X7.here hx rfl (hb hby d13_23) ?_
    show Steps p.tables e below (T7.setTop (mkF m 24 #[.val (.ref ob), .val (.ref el)] [(.int (1 : Int32))])) _
    exact retN X7 hx (t := .boolean) Bd.returns (by simp) (hb hby d13_24) hr
  · show Q_rmA4 Z ob el da ka mc h0 n0 _ T7.heap _
    exact ⟨rfl, N7, (((Keep.refl h0 [ob, da]).wr W2 (Or.inl (List.mem_of_getElem? (i := 0) rfl))).trans Kp7 (allS (Or.inl (List.mem_of_getElem? (i := 0) rfl)) (allS (Or.inl (List.mem_of_getElem? (i := 1) rfl)) all0))), Fq7_0, Fq7_1, Fq7_2, Fq7_3, Fq7_4⟩
def Q_rmH5 (Z : State) (ob : Addr) (el : Addr) (da : Addr) (ka : ClassId) (mc : Int32) (h0 : Heap) (n0 : Nat) (v : Option Value) (h : Heap) (L : List Loc) : Prop := v = none ∧ Fr n0 L ∧ Keep h0 h [ob, da] ∧ Exa Z h ob "java/util/ArrayList" ∧ Fld Z h ob "java/util/AbstractList" "modCount" "I" (.int mc) ∧ Fld Z h ob "java/util/ArrayList" "elementData" "[Ljava/lang/Object;" (.ref da) ∧ Fld Z h ob "java/util/ArrayList" "size" "I" (.int (6 : Int32)) ∧ Arv Z h da ka (.object "java/lang/Object") (10 : Int32) [(.ref el), (.ref el), (.ref el), (.ref el), (.ref el), (.ref el), .null, .null, .null, .null] .null
theorem ef_rmH5 (m : MethodId) (ob : Addr) (el : Addr) (da : Addr) : entryFrame m #[(.ref ob), (.ref el), (.ref da), (.int (5 : Int32))] 4 = mkF m 0 #[.val (.ref ob), .val (.ref el), .val (.ref da), .val (.int (5 : Int32))] [] := by first | (simp [entryFrame, mkF, argsToLocals, Value.category]; done) | rfl
set_option maxRecDepth 65536 in
set_option maxHeartbeats 40000000 in
theorem rmH5 (l : Launch) (Z : State) (a0 : Array Value) (hw : ∀ d ∈ tables_1, d.before a0 Z = true) (ws : List Jvm.Cond) (ob : Addr) (el : Addr) (da : Addr) (ka : ClassId) (mc : Int32) (h0 : Heap) (n0 : Nat) (Z0 : n0 ≤ h0.size) (F_modCount_ob : Fld Z h0 ob "java/util/AbstractList" "modCount" "I" (.int mc)) (E_ob : Exa Z h0 ob "java/util/ArrayList") (F_elementData_ob : Fld Z h0 ob "java/util/ArrayList" "elementData" "[Ljava/lang/Object;" (.ref da)) (F_size_ob : Fld Z h0 ob "java/util/ArrayList" "size" "I" (.int (5 : Int32))) (V_da : Arv Z h0 da ka (.object "java/lang/Object") (10 : Int32) [(.ref el), (.ref el), (.ref el), (.ref el), (.ref el), .null, .null, .null, .null, .null] .null) (hov : Ovr Z ka "java/lang/Object") (E_el : Exa Z h0 el "com/example/sortition/sortition/Element") (g_da : n0 ≤ da) (ne_ob_da : ob ≠ da) (g_ob : n0 ≤ ob) :
    MetFree l (⟨"java/util/ArrayList", "add", "(Ljava/lang/Object;[Ljava/lang/Object;I)V"⟩ : MethodName) (head1 (Jvm.Cond.code (⟨"java/util/ArrayList", "add", "(Ljava/lang/Object;[Ljava/lang/Object;I)V"⟩ : MethodName) jdk_38_method_24_code 4 none :: ws) ({ frames := 0, cells := 0, slots := 0, locals := 0 } : Room)) (fun a U => a = #[(.ref ob), (.ref el), (.ref da), (.int (5 : Int32))] ∧ Z.Warmed39 U.vm ∧ U.heap = h0) (fun _ _ _ _ _ => True) (fun _ U o U' => ∃ v L, o = .returned v ∧ Q_rmH5 Z ob el da ka mc h0 n0 v U'.heap L ∧ FrameEnd U o U' L ({ frames := 0, cells := 0, slots := 0, locals := 0 } : Room).cells ({ frames := 0, cells := 0, slots := 0, locals := 0 } : Room).slots) := by
  refine MetFree.of_bodySF (plainFor_of_name pn_7) hisR ?_
  intro p e s m args below meth c s₁ Bd hml0 hP hK
  obtain ⟨rfl, hZ, hh⟩ := hP
  have hx := Bd.exec
  have hby := Bd.bytes
  have hml : c.maxLocals = 4 := hml0
  have hown : s.vm.findClass "java/util/ArrayList" = some m.cls := findClass_of_methodNamed Bd.named
  have hnm := (name_of_methodNamed Bd.named Bd.method).1
  have X0 : Stand p l e ({ frames := 0, cells := 0, slots := 0, locals := 0 } : Room) s m #[(.ref ob), (.ref el), (.ref da), (.int (5 : Int32))] below meth c s₁ [] 0 0 := Stand.of_body Bd
  have e0 : s₁.heap = h0 := by rw [← hh, Bd.state]; rfl
  have N0 := Fr.nil n0
  have pre0 : ∀ t, Steps p.tables e below (s₁.setTop (mkF m 0 #[.val (.ref ob), .val (.ref el), .val (.ref da), .val (.int (5 : Int32))] [])) t → Steps p.tables e below (s₁.setTop (entryFrame m #[(.ref ob), (.ref el), (.ref da), (.int (5 : Int32))] 4)) t := fun t k => castTop (ef_rmH5 m ob el da) k
  have Vc1 := V_da
  obtain ⟨cl1, Ar1, -, S1, M1, -, -⟩ := Vc1
  have Vc2 := V_da
  obtain ⟨cl2, Ar2, q2, S2, M2, H2, G2⟩ := Vc2
  have hin2 : ¬ ((5 : Int32) < 0 ∨ cl2.slots.size ≤ ((5 : Int32)).toNatClampNeg) := inb_of S2 ⟨by decide, by decide⟩
  obtain ⟨T2, h2, X2, e2, W2, st2⟩ := stR X0 hx hZ e0 Ar2 (j := (5 : Int32)) hin2 rfl (Sto.ofV Ar2 q2 hov (Ins.of_exa E_el (ow hw 103 rfl))) (g := (mkF m 14 #[.val (.ref ob), .val (.ref el), .val (.ref da), .val (.int (5 : Int32))] [(.ref el), (.int (5 : Int32)), (.ref da)])) rfl rfl (hb hby d12_14)
  have V2 : Arv Z h2 da ka (.object "java/lang/Object") (10 : Int32) [(.ref el), (.ref el), (.ref el), (.ref el), (.ref el), (.ref el), .null, .null, .null, .null] .null := Arv.set Ar2 q2 S2 M2 H2 G2 rfl W2 5 rfl (Nat.le_of_ble_eq_true rfl)
  have N2 := Fr.snoc X2 N0 g_da
  have f3 : Fld Z h2 ob "java/util/ArrayList" "size" "I" (.int (5 : Int32)) := (F_size_ob.other W2 (Or.inl ne_ob_da))
  have f4 : Exa Z h2 ob "java/util/ArrayList" := (E_ob.wr W2)
  obtain ⟨T5, h5, X5, e5, W5, st5⟩ := putF X2 hx hZ hown (host := "") (Or.inl (ow hw 80 rfl)) Via.refl e2 f3 f4 (Or.inl (ow hw 81 rfl)) (ow hw 50 rfl) (ty := .int) (by decide) rfl rfl (g := (mkF m 19 #[.val (.ref ob), .val (.ref el), .val (.ref da), .val (.int (5 : Int32))] [(.int (6 : Int32)), (.ref ob)])) rfl rfl (hb hby d12_19)
  have Fw5 := f3.same W5
  have N5 := Fr.snoc X5 N2 g_ob
  have f6 : Exa Z h5 ob "java/util/ArrayList" := (f4.wr W5)
  have f7 : Fld Z h5 ob "java/util/AbstractList" "modCount" "I" (.int mc) := ((F_modCount_ob.other W2 (Or.inl ne_ob_da)).other W5 (Or.inr (slot_ne (Or.inl (ow hw 69 rfl)) (Or.inl (ow hw 81 rfl)) (by decide) (t := .int) (t' := .int) (by decide) (by decide))))
  have f8 : Fld Z h5 ob "java/util/ArrayList" "elementData" "[Ljava/lang/Object;" (.ref da) := ((F_elementData_ob.other W2 (Or.inl ne_ob_da)).other W5 (Or.inr (slot_ne (Or.inl (ow hw 72 rfl)) (Or.inl (ow hw 81 rfl)) (by decide) (t := (.array (.object "java/lang/Object"))) (t' := .int) (by decide) (by decide))))
  have f9 : Arv Z h5 da ka (.object "java/lang/Object") (10 : Int32) [(.ref el), (.ref el), (.ref el), (.ref el), (.ref el), (.ref el), .null, .null, .null, .null] .null := (V2.other W5 (Ne.symm ne_ob_da))
  obtain ⟨fs, hr, hrun, hended, hW, hsame⟩ := X5.leave (v := none) (fun _ => rfl)
  refine ⟨_, _, pre0 _ ?_, hrun, hended, _, _, rfl, ?_, ⟨_, rfl⟩, hW, hsame.mono (by decide) (by decide)⟩
  · show Steps p.tables e below (s₁.setTop (mkF m 0 #[.val (.ref ob), .val (.ref el), .val (.ref da), .val (.int (5 : Int32))] [])) _
    refine XS.iloadN X0.here hx rfl (hb hby d12_0) rfl ?_
    show Steps p.tables e below (s₁.setTop (mkF m 1 #[.val (.ref ob), .val (.ref el), .val (.ref da), .val (.int (5 : Int32))] [(.int (5 : Int32))])) _
    refine XS.aloadN X0.here hx rfl (hb hby d12_1) rfl rfl ?_
    show Steps p.tables e below (s₁.setTop (mkF m 2 #[.val (.ref ob), .val (.ref el), .val (.ref da), .val (.int (5 : Int32))] [(.ref da), (.int (5 : Int32))])) _
    refine X0.arraylength hx (cell := cl1) (by rw [e0]; exact Ar1.1) (State.isArrayOf_alike hZ.alike Ar1.2.1) (g := (mkF m 2 #[.val (.ref ob), .val (.ref el), .val (.ref da), .val (.int (5 : Int32))] [(.ref da), (.int (5 : Int32))])) rfl (rest := [(.int (5 : Int32))]) rfl (hb hby d12_2) _ ?_
    rw [len_of S1 M1]
    show Steps p.tables e below (s₁.setTop (mkF m 3 #[.val (.ref ob), .val (.ref el), .val (.ref da), .val (.int (5 : Int32))] [(.int (10 : Int32)), (.int (5 : Int32))])) _
    refine XS.icmpYes X0.here hx rfl (pc0 := 3) (pc' := 11) rfl (hb hby d12_3) rfl (feq (by decide : ¬ ((5 : Int32) = (10 : Int32)))).2 (by decide) (by decide) ?_
    show Steps p.tables e below (s₁.setTop (mkF m 11 #[.val (.ref ob), .val (.ref el), .val (.ref da), .val (.int (5 : Int32))] [])) _
    refine XS.aloadN X0.here hx rfl (hb hby d12_11) rfl rfl ?_
    show Steps p.tables e below (s₁.setTop (mkF m 12 #[.val (.ref ob), .val (.ref el), .val (.ref da), .val (.int (5 : Int32))] [(.ref da)])) _
    refine XS.iloadN X0.here hx rfl (hb hby d12_12) rfl ?_
    show Steps p.tables e below (s₁.setTop (mkF m 13 #[.val (.ref ob), .val (.ref el), .val (.ref da), .val (.int (5 : Int32))] [(.int (5 : Int32)), (.ref da)])) _
    refine XS.aloadN X0.here hx rfl (hb hby d12_13) rfl rfl ?_
    show Steps p.tables e below (s₁.setTop (mkF m 14 #[.val (.ref ob), .val (.ref el), .val (.ref da), .val (.int (5 : Int32))] [(.ref el), (.int (5 : Int32)), (.ref da)])) _
    refine st2 _ ?_
    show Steps p.tables e below (T2.setTop (mkF m 15 #[.val (.ref ob), .val (.ref el), .val (.ref da), .val (.int (5 : Int32))] [])) _
    refine XS.aloadN X2.here hx rfl (hb hby d12_15) rfl rfl ?_
    show Steps p.tables e below (T2.setTop (mkF m 16 #[.val (.ref ob), .val (.ref el), .val (.ref da), .val (.int (5 : Int32))] [(.ref ob)])) _
    refine XS.iloadN X2.here hx rfl (hb hby d12_16) rfl ?_
    show Steps p.tables e below (T2.setTop (mkF m 17 #[.val (.ref ob), .val (.ref el), .val (.ref da), .val (.int (5 : Int32))] [(.int (5 : Int32)), (.ref ob)])) _
    refine XS.iconst X2.here hx rfl (hb hby d12_17) ?_
    show Steps p.tables e below (T2.setTop (mkF m 18 #[.val (.ref ob), .val (.ref el), .val (.ref da), .val (.int (5 : Int32))] [(.int (1 : Int32)), (.int (5 : Int32)), (.ref ob)])) _
    refine XS.iadd X2.here hx rfl (hb hby d12_18) rfl ?_
    show Steps p.tables e below (T2.setTop (mkF m 19 #[.val (.ref ob), .val (.ref el), .val (.ref da), .val (.int (5 : Int32))] [(.int ((5 : Int32) + (1 : Int32))), (.ref ob)])) _
    rw [show ((5 : Int32) + (1 : Int32)) = (6 : Int32) from by decide]
    show Steps p.tables e below (T2.setTop (mkF m 19 #[.val (.ref ob), .val (.ref el), .val (.ref da), .val (.int (5 : Int32))] [(.int (6 : Int32)), (.ref ob)])) _
    refine st5 _ ?_
    show Steps p.tables e below (T5.setTop (mkF m 22 #[.val (.ref ob), .val (.ref el), .val (.ref da), .val (.int (5 : Int32))] [])) _
    exact X5.returnOut hx Bd.returns (hb hby d12_22) hr
  · show Q_rmH5 Z ob el da ka mc h0 n0 _ T5.heap _
    rw [e5]
    exact ⟨rfl, N5, (((Keep.refl h0 [ob, da]).wr W2 (Or.inl (List.mem_of_getElem? (i := 1) rfl))).wr W5 (Or.inl (List.mem_of_getElem? (i := 0) rfl))), f6, f7, f8, Fw5, f9⟩
def Q_rmA5 (Z : State) (ob : Addr) (el : Addr) (da : Addr) (ka : ClassId) (mc : Int32) (h0 : Heap) (n0 : Nat) (v : Option Value) (h : Heap) (L : List Loc) : Prop := v = some (.int (1 : Int32)) ∧ Fr n0 L ∧ Keep h0 h [ob, da] ∧ Exa Z h ob "java/util/ArrayList" ∧ Fld Z h ob "java/util/AbstractList" "modCount" "I" (.int (mc + (1 : Int32))) ∧ Fld Z h ob "java/util/ArrayList" "elementData" "[Ljava/lang/Object;" (.ref da) ∧ Fld Z h ob "java/util/ArrayList" "size" "I" (.int (6 : Int32)) ∧ Arv Z h da ka (.object "java/lang/Object") (10 : Int32) [(.ref el), (.ref el), (.ref el), (.ref el), (.ref el), (.ref el), .null, .null, .null, .null] .null
theorem ef_rmA5 (m : MethodId) (ob : Addr) (el : Addr) : entryFrame m #[(.ref ob), (.ref el)] 2 = mkF m 0 #[.val (.ref ob), .val (.ref el)] [] := by first | (simp [entryFrame, mkF, argsToLocals, Value.category]; done) | rfl
set_option maxRecDepth 65536 in
set_option maxHeartbeats 40000000 in
theorem rmA5 (l : Launch) (Z : State) (a0 : Array Value) (hw : ∀ d ∈ tables_1, d.before a0 Z = true) (ws : List Jvm.Cond) (ob : Addr) (el : Addr) (da : Addr) (ka : ClassId) (mc : Int32) (h0 : Heap) (n0 : Nat) (Z0 : n0 ≤ h0.size) (F_modCount_ob : Fld Z h0 ob "java/util/AbstractList" "modCount" "I" (.int mc)) (E_ob : Exa Z h0 ob "java/util/ArrayList") (F_elementData_ob : Fld Z h0 ob "java/util/ArrayList" "elementData" "[Ljava/lang/Object;" (.ref da)) (F_size_ob : Fld Z h0 ob "java/util/ArrayList" "size" "I" (.int (5 : Int32))) (V_da : Arv Z h0 da ka (.object "java/lang/Object") (10 : Int32) [(.ref el), (.ref el), (.ref el), (.ref el), (.ref el), .null, .null, .null, .null, .null] .null) (hov : Ovr Z ka "java/lang/Object") (E_el : Exa Z h0 el "com/example/sortition/sortition/Element") (g_ob : n0 ≤ ob) (ne_da_ob : da ≠ ob) (g_da : n0 ≤ da) :
    MetFree l (⟨"java/util/ArrayList", "add", "(Ljava/lang/Object;)Z"⟩ : MethodName) (head1 (Jvm.Cond.code (⟨"java/util/ArrayList", "add", "(Ljava/lang/Object;)Z"⟩ : MethodName) jdk_38_method_25_code 2 (some .boolean) :: ws) ({ frames := 1, cells := 0, slots := 0, locals := 15 } : Room)) (fun a U => a = #[(.ref ob), (.ref el)] ∧ Z.Warmed39 U.vm ∧ U.heap = h0) (fun _ _ _ _ _ => True) (fun _ U o U' => ∃ v L, o = .returned v ∧ Q_rmA5 Z ob el da ka mc h0 n0 v U'.heap L ∧ FrameEnd U o U' L ({ frames := 1, cells := 0, slots := 0, locals := 15 } : Room).cells ({ frames := 1, cells := 0, slots := 0, locals := 15 } : Room).slots) := by
  refine MetFree.of_bodySF (plainFor_of_name pn_7) hisR ?_
  intro p e s m args below meth c s₁ Bd hml0 hP hK
  obtain ⟨rfl, hZ, hh⟩ := hP
  have hx := Bd.exec
  have hby := Bd.bytes
  have hml : c.maxLocals = 2 := hml0
  have hown : s.vm.findClass "java/util/ArrayList" = some m.cls := findClass_of_methodNamed Bd.named
  have hnm := (name_of_methodNamed Bd.named Bd.method).1
  have X0 : Stand p l e ({ frames := 1, cells := 0, slots := 0, locals := 15 } : Room) s m #[(.ref ob), (.ref el)] below meth c s₁ [] 0 0 := Stand.of_body Bd
  have e0 : s₁.heap = h0 := by rw [← hh, Bd.state]; rfl
  have N0 := Fr.nil n0
  have pre0 : ∀ t, Steps p.tables e below (s₁.setTop (mkF m 0 #[.val (.ref ob), .val (.ref el)] [])) t → Steps p.tables e below (s₁.setTop (entryFrame m #[(.ref ob), (.ref el)] 2)) t := fun t k => castTop (ef_rmA5 m ob el) k
  obtain ⟨T1, X1, e1, st1⟩ := getF X0 hx hZ hown (host := "") (Or.inl (ow hw 78 rfl)) (Via.of (ow hw 79 rfl)) e0 F_modCount_ob (g := (mkF m 2 #[.val (.ref ob), .val (.ref el)] [(.ref ob), (.ref ob)])) rfl rfl (hb hby d13_2)
  obtain ⟨T2, h2, X2, e2, W2, st2⟩ := putF X1 hx hZ hown (host := "") (Or.inl (ow hw 78 rfl)) (Via.of (ow hw 79 rfl)) e1 F_modCount_ob E_ob (Or.inl (ow hw 69 rfl)) (ow hw 50 rfl) (ty := .int) (by decide) rfl rfl (g := (mkF m 7 #[.val (.ref ob), .val (.ref el)] [(.int (mc + (1 : Int32))), (.ref ob)])) rfl rfl (hb hby d13_7)
  have Fw2 := F_modCount_ob.same W2
  have N2 := Fr.snoc X2 N0 g_ob
  have f3 : Fld Z h2 ob "java/util/ArrayList" "elementData" "[Ljava/lang/Object;" (.ref da) := (F_elementData_ob.other W2 (Or.inr (slot_ne (Or.inl (ow hw 72 rfl)) (Or.inl (ow hw 69 rfl)) (by decide) (t := (.array (.object "java/lang/Object"))) (t' := .int) (by decide) (by decide))))
  obtain ⟨T4, X4, e4, st4⟩ := getF X2 hx hZ hown (host := "") (Or.inl (ow hw 71 rfl)) Via.refl e2 f3 (g := (mkF m 13 #[.val (.ref ob), .val (.ref el)] [(.ref ob), (.ref el), (.ref ob)])) rfl rfl (hb hby d13_13)
  have f5 : Fld Z h2 ob "java/util/ArrayList" "size" "I" (.int (5 : Int32)) := (F_size_ob.other W2 (Or.inr (slot_ne (Or.inl (ow hw 81 rfl)) (Or.inl (ow hw 69 rfl)) (by decide) (t := .int) (t' := .int) (by decide) (by decide))))
  obtain ⟨T6, X6, e6, st6⟩ := getF X4 hx hZ hown (host := "") (Or.inl (ow hw 80 rfl)) Via.refl e4 f5 (g := (mkF m 17 #[.val (.ref ob), .val (.ref el)] [(.ref ob), (.ref da), (.ref el), (.ref ob)])) rfl rfl (hb hby d13_17)
  have f8 : Exa Z h2 ob "java/util/ArrayList" := (E_ob.wr W2)
  have f9 : Arv Z h2 da ka (.object "java/lang/Object") (10 : Int32) [(.ref el), (.ref el), (.ref el), (.ref el), (.ref el), .null, .null, .null, .null, .null] .null := (V_da.other W2 ne_da_ob)
  have f10 : Exa Z h2 el "com/example/sortition/sortition/Element" := (E_el.wr W2)
  obtain ⟨cq7, q7, q7'⟩ := f8.cell
  obtain ⟨_, _, ⟨T7, L7, k7, n7⟩, -, X7, ⟨Lc7, hQ7, l7, y7, z7⟩, st7⟩ := X6.privateBack hx (y := (⟨"java/util/ArrayList", "add", "(Ljava/lang/Object;[Ljava/lang/Object;I)V"⟩ : MethodName)) hown (mvT hZ (ow hw 82 rfl)) (mvT hZ (ow hw 83 rfl)) (mvT hZ (ow hw 85 rfl)) (Cond.privateMethod_at (mvP hZ (ow hw 84 rfl) (args := #[]))) (mvT hZ (ow hw 86 rfl)) (by decide) (backOf (W := 0) (rmH5 l Z a0 hw [] ob el da ka (mc + (1 : Int32)) h2 n0 (Nat.le_trans Z0 (Keep.of_wr W2).1) Fw2 f8 f3 f5 f9 hov f10 g_da (Ne.symm ne_da_ob) g_ob) hZ (ow hw 86 rfl) (ow hw 51 rfl) (by decide) (by decide)) (g := (mkF m 20 #[.val (.ref ob), .val (.ref el)] [(.int (5 : Int32)), (.ref da), (.ref el), (.ref ob)])) rfl (by rw [hml]; rfl) (Steps.refl _) (a := ob) (by rw [e6]; exact q7) q7' (argsL := [(.ref el), (.ref da), (.int (5 : Int32))]) (rest := []) (lenOf pd_6 rfl) rfl (by show 2 * 0 + _ ≤ _; exact Nat.le_of_eq rfl) (hb hby d13_20) (fun _ _ => ⟨rfl, e6, (by decide : 0 + 0 ≤ _), (by decide : 0 + 0 ≤ _)⟩)
  dsimp only [Pt.U, Pt.locs, Pt.cells, Pt.slots] at X7 l7 y7 z7 st7 hQ7
  subst l7 y7 z7
  obtain ⟨rfl, Nq7, Kp7, Fq7_0, Fq7_1, Fq7_2, Fq7_3, Fq7_4⟩ := hQ7
  have N7 := Fr.app N2 Nq7
  obtain ⟨fs, hr, hrun, hended, hW, hsame⟩ := X7.leave (v := some (.int (1 : Int32))) (fun h => by rw [Bd.returns] at h; cases h)
  refine ⟨_, _, pre0 _ ?_, hrun, hended, _, _, rfl, ?_, ⟨_, rfl⟩, hW, hsame.mono (by decide) (by decide)⟩
  · show Steps p.tables e below (s₁.setTop (mkF m 0 #[.val (.ref ob), .val (.ref el)] [])) _
    refine XS.aloadN X0.here hx rfl (hb hby d13_0) rfl rfl ?_
    show Steps p.tables e below (s₁.setTop (mkF m 1 #[.val (.ref ob), .val (.ref el)] [(.ref ob)])) _
    refine XS.dup X0.here hx rfl (hb hby d13_1) rfl rfl ?_
    show Steps p.tables e below (s₁.setTop (mkF m 2 #[.val (.ref ob), .val (.ref el)] [(.ref ob), (.ref ob)])) _
    refine st1 _ ?_
    show Steps p.tables e below (T1.setTop (mkF m 5 #[.val (.ref ob), .val (.ref el)] [(.int mc), (.ref ob)])) _
    refine XS.iconst X1.here hx rfl (hb hby d13_5) ?_
    show Steps p.tables e below (T1.setTop (mkF m 6 #[.val (.ref ob), .val (.ref el)] [(.int (1 : Int32)), (.int mc), (.ref ob)])) _
    refine XS.iadd X1.here hx rfl (hb hby d13_6) rfl ?_
    show Steps p.tables e below (T1.setTop (mkF m 7 #[.val (.ref ob), .val (.ref el)] [(.int (mc + (1 : Int32))), (.ref ob)])) _
    refine st2 _ ?_
    show Steps p.tables e below (T2.setTop (mkF m 10 #[.val (.ref ob), .val (.ref el)] [])) _
    refine XS.aloadN X2.here hx rfl (hb hby d13_10) rfl rfl ?_
    show Steps p.tables e below (T2.setTop (mkF m 11 #[.val (.ref ob), .val (.ref el)] [(.ref ob)])) _
    refine XS.aloadN X2.here hx rfl (hb hby d13_11) rfl rfl ?_
    show Steps p.tables e below (T2.setTop (mkF m 12 #[.val (.ref ob), .val (.ref el)] [(.ref el), (.ref ob)])) _
    refine XS.aloadN X2.here hx rfl (hb hby d13_12) rfl rfl ?_
    show Steps p.tables e below (T2.setTop (mkF m 13 #[.val (.ref ob), .val (.ref el)] [(.ref ob), (.ref el), (.ref ob)])) _
    refine st4 _ ?_
    show Steps p.tables e below (T4.setTop (mkF m 16 #[.val (.ref ob), .val (.ref el)] [(.ref da), (.ref el), (.ref ob)])) _
    refine XS.aloadN X4.here hx rfl (hb hby d13_16) rfl rfl ?_
    show Steps p.tables e below (T4.setTop (mkF m 17 #[.val (.ref ob), .val (.ref el)] [(.ref ob), (.ref da), (.ref el), (.ref ob)])) _
    refine st6 _ ?_
    show Steps p.tables e below (T6.setTop (mkF m 20 #[.val (.ref ob), .val (.ref el)] [(.int (5 : Int32)), (.ref da), (.ref el), (.ref ob)])) _
    refine st7.trans ?_
    show Steps p.tables e below (T7.setTop (mkF m 23 #[.val (.ref ob), .val (.ref el)] [])) _
    refine XS.iconst X7.here hx rfl (hb hby d13_23) ?_
    show Steps p.tables e below (T7.setTop (mkF m 24 #[.val (.ref ob), .val (.ref el)] [(.int (1 : Int32))])) _
    exact retN X7 hx (t := .boolean) Bd.returns (by simp) (hb hby d13_24) hr
  · show Q_rmA5 Z ob el da ka mc h0 n0 _ T7.heap _
    exact ⟨rfl, N7, (((Keep.refl h0 [ob, da]).wr W2 (Or.inl (List.mem_of_getElem? (i := 0) rfl))).trans Kp7 (allS (Or.inl (List.mem_of_getElem? (i := 0) rfl)) (allS (Or.inl (List.mem_of_getElem? (i := 1) rfl)) all0))), Fq7_0, Fq7_1, Fq7_2, Fq7_3, Fq7_4⟩
def Q_rmH6 (Z : State) (ob : Addr) (el : Addr) (da : Addr) (ka : ClassId) (mc : Int32) (h0 : Heap) (n0 : Nat) (v : Option Value) (h : Heap) (L : List Loc) : Prop := v = none ∧ Fr n0 L ∧ Keep h0 h [ob, da] ∧ Exa Z h ob "java/util/ArrayList" ∧ Fld Z h ob "java/util/AbstractList" "modCount" "I" (.int mc) ∧ Fld Z h ob "java/util/ArrayList" "elementData" "[Ljava/lang/Object;" (.ref da) ∧ Fld Z h ob "java/util/ArrayList" "size" "I" (.int (7 : Int32)) ∧ Arv Z h da ka (.object "java/lang/Object") (10 : Int32) [(.ref el), (.ref el), (.ref el), (.ref el), (.ref el), (.ref el), (.ref el), .null, .null, .null] .null
theorem ef_rmH6 (m : MethodId) (ob : Addr) (el : Addr) (da : Addr) : entryFrame m #[(.ref ob), (.ref el), (.ref da), (.int (6 : Int32))] 4 = mkF m 0 #[.val (.ref ob), .val (.ref el), .val (.ref da), .val (.int (6 : Int32))] [] := by first | (simp [entryFrame, mkF, argsToLocals, Value.category]; done) | rfl
set_option maxRecDepth 65536 in
set_option maxHeartbeats 40000000 in
theorem rmH6 (l : Launch) (Z : State) (a0 : Array Value) (hw : ∀ d ∈ tables_1, d.before a0 Z = true) (ws : List Jvm.Cond) (ob : Addr) (el : Addr) (da : Addr) (ka : ClassId) (mc : Int32) (h0 : Heap) (n0 : Nat) (Z0 : n0 ≤ h0.size) (F_modCount_ob : Fld Z h0 ob "java/util/AbstractList" "modCount" "I" (.int mc)) (E_ob : Exa Z h0 ob "java/util/ArrayList") (F_elementData_ob : Fld Z h0 ob "java/util/ArrayList" "elementData" "[Ljava/lang/Object;" (.ref da)) (F_size_ob : Fld Z h0 ob "java/util/ArrayList" "size" "I" (.int (6 : Int32))) (V_da : Arv Z h0 da ka (.object "java/lang/Object") (10 : Int32) [(.ref el), (.ref el), (.ref el), (.ref el), (.ref el), (.ref el), .null, .null, .null, .null] .null) (hov : Ovr Z ka "java/lang/Object") (E_el : Exa Z h0 el "com/example/sortition/sortition/Element") (g_da : n0 ≤ da) (ne_ob_da : ob ≠ da) (g_ob : n0 ≤ ob) :
    MetFree l (⟨"java/util/ArrayList", "add", "(Ljava/lang/Object;[Ljava/lang/Object;I)V"⟩ : MethodName) (head1 (Jvm.Cond.code (⟨"java/util/ArrayList", "add", "(Ljava/lang/Object;[Ljava/lang/Object;I)V"⟩ : MethodName) jdk_38_method_24_code 4 none :: ws) ({ frames := 0, cells := 0, slots := 0, locals := 0 } : Room)) (fun a U => a = #[(.ref ob), (.ref el), (.ref da), (.int (6 : Int32))] ∧ Z.Warmed39 U.vm ∧ U.heap = h0) (fun _ _ _ _ _ => True) (fun _ U o U' => ∃ v L, o = .returned v ∧ Q_rmH6 Z ob el da ka mc h0 n0 v U'.heap L ∧ FrameEnd U o U' L ({ frames := 0, cells := 0, slots := 0, locals := 0 } : Room).cells ({ frames := 0, cells := 0, slots := 0, locals := 0 } : Room).slots) := by
  refine MetFree.of_bodySF (plainFor_of_name pn_7) hisR ?_
  intro p e s m args below meth c s₁ Bd hml0 hP hK
  obtain ⟨rfl, hZ, hh⟩ := hP
  have hx := Bd.exec
  have hby := Bd.bytes
  have hml : c.maxLocals = 4 := hml0
  have hown : s.vm.findClass "java/util/ArrayList" = some m.cls := findClass_of_methodNamed Bd.named
  have hnm := (name_of_methodNamed Bd.named Bd.method).1
  have X0 : Stand p l e ({ frames := 0, cells := 0, slots := 0, locals := 0 } : Room) s m #[(.ref ob), (.ref el), (.ref da), (.int (6 : Int32))] below meth c s₁ [] 0 0 := Stand.of_body Bd
  have e0 : s₁.heap = h0 := by rw [← hh, Bd.state]; rfl
  have N0 := Fr.nil n0
  have pre0 : ∀ t, Steps p.tables e below (s₁.setTop (mkF m 0 #[.val (.ref ob), .val (.ref el), .val (.ref da), .val (.int (6 : Int32))] [])) t → Steps p.tables e below (s₁.setTop (entryFrame m #[(.ref ob), (.ref el), (.ref da), (.int (6 : Int32))] 4)) t := fun t k => castTop (ef_rmH6 m ob el da) k
  have Vc1 := V_da
  obtain ⟨cl1, Ar1, -, S1, M1, -, -⟩ := Vc1
  have Vc2 := V_da
  obtain ⟨cl2, Ar2, q2, S2, M2, H2, G2⟩ := Vc2
  have hin2 : ¬ ((6 : Int32) < 0 ∨ cl2.slots.size ≤ ((6 : Int32)).toNatClampNeg) := inb_of S2 ⟨by decide, by decide⟩
  obtain ⟨T2, h2, X2, e2, W2, st2⟩ := stR X0 hx hZ e0 Ar2 (j := (6 : Int32)) hin2 rfl (Sto.ofV Ar2 q2 hov (Ins.of_exa E_el (ow hw 103 rfl))) (g := (mkF m 14 #[.val (.ref ob), .val (.ref el), .val (.ref da), .val (.int (6 : Int32))] [(.ref el), (.int (6 : Int32)), (.ref da)])) rfl rfl (hb hby d12_14)
  have V2 : Arv Z h2 da ka (.object "java/lang/Object") (10 : Int32) [(.ref el), (.ref el), (.ref el), (.ref el), (.ref el), (.ref el), (.ref el), .null, .null, .null] .null := Arv.set Ar2 q2 S2 M2 H2 G2 rfl W2 6 rfl (Nat.le_of_ble_eq_true rfl)
  have N2 := Fr.snoc X2 N0 g_da
  have f3 : Fld Z h2 ob "java/util/ArrayList" "size" "I" (.int (6 : Int32)) := (F_size_ob.other W2 (Or.inl ne_ob_da))
  have f4 : Exa Z h2 ob "java/util/ArrayList" := (E_ob.wr W2)
  obtain ⟨T5, h5, X5, e5, W5, st5⟩ := putF X2 hx hZ hown (host := "") (Or.inl (ow hw 80 rfl)) Via.refl e2 f3 f4 (Or.inl (ow hw 81 rfl)) (ow hw 50 rfl) (ty := .int) (by decide) rfl rfl (g := (mkF m 19 #[.val (.ref ob), .val (.ref el), .val (.ref da), .val (.int (6 : Int32))] [(.int (7 : Int32)), (.ref ob)])) rfl rfl (hb hby d12_19)
  have Fw5 := f3.same W5
  have N5 := Fr.snoc X5 N2 g_ob
  have f6 : Exa Z h5 ob "java/util/ArrayList" := (f4.wr W5)
  have f7 : Fld Z h5 ob "java/util/AbstractList" "modCount" "I" (.int mc) := ((F_modCount_ob.other W2 (Or.inl ne_ob_da)).other W5 (Or.inr (slot_ne (Or.inl (ow hw 69 rfl)) (Or.inl (ow hw 81 rfl)) (by decide) (t := .int) (t' := .int) (by decide) (by decide))))
  have f8 : Fld Z h5 ob "java/util/ArrayList" "elementData" "[Ljava/lang/Object;" (.ref da) := ((F_elementData_ob.other W2 (Or.inl ne_ob_da)).other W5 (Or.inr (slot_ne (Or.inl (ow hw 72 rfl)) (Or.inl (ow hw 81 rfl)) (by decide) (t := (.array (.object "java/lang/Object"))) (t' := .int) (by decide) (by decide))))
  have f9 : Arv Z h5 da ka (.object "java/lang/Object") (10 : Int32) [(.ref el), (.ref el), (.ref el), (.ref el), (.ref el), (.ref el), (.ref el), .null, .null, .null] .null := (V2.other W5 (Ne.symm ne_ob_da))
  obtain ⟨fs, hr, hrun, hended, hW, hsame⟩ := X5.leave (v := none) (fun _ => rfl)
  refine ⟨_, _, pre0 _ ?_, hrun, hended, _, _, rfl, ?_, ⟨_, rfl⟩, hW, hsame.mono (by decide) (by decide)⟩
  · show Steps p.tables e below (s₁.setTop (mkF m 0 #[.val (.ref ob), .val (.ref el), .val (.ref da), .val (.int (6 : Int32))] [])) _
    refine XS.iloadN X0.here hx rfl (hb hby d12_0) rfl ?_
    show Steps p.tables e below (s₁.setTop (mkF m 1 #[.val (.ref ob), .val (.ref el), .val (.ref da), .val (.int (6 : Int32))] [(.int (6 : Int32))])) _
    refine XS.aloadN X0.here hx rfl (hb hby d12_1) rfl rfl ?_
    show Steps p.tables e below (s₁.setTop (mkF m 2 #[.val (.ref ob), .val (.ref el), .val (.ref da), .val (.int (6 : Int32))] [(.ref da), (.int (6 : Int32))])) _
    refine X0.arraylength hx (cell := cl1) (by rw [e0]; exact Ar1.1) (State.isArrayOf_alike hZ.alike Ar1.2.1) (g := (mkF m 2 #[.val (.ref ob), .val (.ref el), .val (.ref da), .val (.int (6 : Int32))] [(.ref da), (.int (6 : Int32))])) rfl (rest := [(.int (6 : Int32))]) rfl (hb hby d12_2) _ ?_
    rw [len_of S1 M1]
    show Steps p.tables e below (s₁.setTop (mkF m 3 #[.val (.ref ob), .val (.ref el), .val (.ref da), .val (.int (6 : Int32))] [(.int (10 : Int32)), (.int (6 : Int32))])) _
    refine XS.icmpYes X0.here hx rfl (pc0 := 3) (pc' := 11) rfl (hb hby d12_3) rfl (feq (by decide : ¬ ((6 : Int32) = (10 : Int32)))).2 (by decide) (by decide) ?_
    show Steps p.tables e below (s₁.setTop (mkF m 11 #[.val (.ref ob), .val (.ref el), .val (.ref da), .val (.int (6 : Int32))] [])) _
    refine XS.aloadN X0.here hx rfl (hb hby d12_11) rfl rfl ?_
    show Steps p.tables e below (s₁.setTop (mkF m 12 #[.val (.ref ob), .val (.ref el), .val (.ref da), .val (.int (6 : Int32))] [(.ref da)])) _
    refine XS.iloadN X0.here hx rfl (hb hby d12_12) rfl ?_
    show Steps p.tables e below (s₁.setTop (mkF m 13 #[.val (.ref ob), .val (.ref el), .val (.ref da), .val (.int (6 : Int32))] [(.int (6 : Int32)), (.ref da)])) _
    refine XS.aloadN X0.here hx rfl (hb hby d12_13) rfl rfl ?_
    show Steps p.tables e below (s₁.setTop (mkF m 14 #[.val (.ref ob), .val (.ref el), .val (.ref da), .val (.int (6 : Int32))] [(.ref el), (.int (6 : Int32)), (.ref da)])) _
    refine st2 _ ?_
    show Steps p.tables e below (T2.setTop (mkF m 15 #[.val (.ref ob), .val (.ref el), .val (.ref da), .val (.int (6 : Int32))] [])) _
    refine XS.aloadN X2.here hx rfl (hb hby d12_15) rfl rfl ?_
    show Steps p.tables e below (T2.setTop (mkF m 16 #[.val (.ref ob), .val (.ref el), .val (.ref da), .val (.int (6 : Int32))] [(.ref ob)])) _
    refine XS.iloadN X2.here hx rfl (hb hby d12_16) rfl ?_
    show Steps p.tables e below (T2.setTop (mkF m 17 #[.val (.ref ob), .val (.ref el), .val (.ref da), .val (.int (6 : Int32))] [(.int (6 : Int32)), (.ref ob)])) _
    refine XS.iconst X2.here hx rfl (hb hby d12_17) ?_
    show Steps p.tables e below (T2.setTop (mkF m 18 #[.val (.ref ob), .val (.ref el), .val (.ref da), .val (.int (6 : Int32))] [(.int (1 : Int32)), (.int (6 : Int32)), (.ref ob)])) _
    refine XS.iadd X2.here hx rfl (hb hby d12_18) rfl ?_
    show Steps p.tables e below (T2.setTop (mkF m 19 #[.val (.ref ob), .val (.ref el), .val (.ref da), .val (.int (6 : Int32))] [(.int ((6 : Int32) + (1 : Int32))), (.ref ob)])) _
    rw [show ((6 : Int32) + (1 : Int32)) = (7 : Int32) from by decide]
    show Steps p.tables e below (T2.setTop (mkF m 19 #[.val (.ref ob), .val (.ref el), .val (.ref da), .val (.int (6 : Int32))] [(.int (7 : Int32)), (.ref ob)])) _
    refine st5 _ ?_
    show Steps p.tables e below (T5.setTop (mkF m 22 #[.val (.ref ob), .val (.ref el), .val (.ref da), .val (.int (6 : Int32))] [])) _
    exact X5.returnOut hx Bd.returns (hb hby d12_22) hr
  · show Q_rmH6 Z ob el da ka mc h0 n0 _ T5.heap _
    rw [e5]
    exact ⟨rfl, N5, (((Keep.refl h0 [ob, da]).wr W2 (Or.inl (List.mem_of_getElem? (i := 1) rfl))).wr W5 (Or.inl (List.mem_of_getElem? (i := 0) rfl))), f6, f7, f8, Fw5, f9⟩
def Q_rmA6 (Z : State) (ob : Addr) (el : Addr) (da : Addr) (ka : ClassId) (mc : Int32) (h0 : Heap) (n0 : Nat) (v : Option Value) (h : Heap) (L : List Loc) : Prop := v = some (.int (1 : Int32)) ∧ Fr n0 L ∧ Keep h0 h [ob, da] ∧ Exa Z h ob "java/util/ArrayList" ∧ Fld Z h ob "java/util/AbstractList" "modCount" "I" (.int (mc + (1 : Int32))) ∧ Fld Z h ob "java/util/ArrayList" "elementData" "[Ljava/lang/Object;" (.ref da) ∧ Fld Z h ob "java/util/ArrayList" "size" "I" (.int (7 : Int32)) ∧ Arv Z h da ka (.object "java/lang/Object") (10 : Int32) [(.ref el), (.ref el), (.ref el), (.ref el), (.ref el), (.ref el), (.ref el), .null, .null, .null] .null
theorem ef_rmA6 (m : MethodId) (ob : Addr) (el : Addr) : entryFrame m #[(.ref ob), (.ref el)] 2 = mkF m 0 #[.val (.ref ob), .val (.ref el)] [] := by first | (simp [entryFrame, mkF, argsToLocals, Value.category]; done) | rfl
set_option maxRecDepth 65536 in
set_option maxHeartbeats 40000000 in
theorem rmA6 (l : Launch) (Z : State) (a0 : Array Value) (hw : ∀ d ∈ tables_1, d.before a0 Z = true) (ws : List Jvm.Cond) (ob : Addr) (el : Addr) (da : Addr) (ka : ClassId) (mc : Int32) (h0 : Heap) (n0 : Nat) (Z0 : n0 ≤ h0.size) (F_modCount_ob : Fld Z h0 ob "java/util/AbstractList" "modCount" "I" (.int mc)) (E_ob : Exa Z h0 ob "java/util/ArrayList") (F_elementData_ob : Fld Z h0 ob "java/util/ArrayList" "elementData" "[Ljava/lang/Object;" (.ref da)) (F_size_ob : Fld Z h0 ob "java/util/ArrayList" "size" "I" (.int (6 : Int32))) (V_da : Arv Z h0 da ka (.object "java/lang/Object") (10 : Int32) [(.ref el), (.ref el), (.ref el), (.ref el), (.ref el), (.ref el), .null, .null, .null, .null] .null) (hov : Ovr Z ka "java/lang/Object") (E_el : Exa Z h0 el "com/example/sortition/sortition/Element") (g_ob : n0 ≤ ob) (ne_da_ob : da ≠ ob) (g_da : n0 ≤ da) :
    MetFree l (⟨"java/util/ArrayList", "add", "(Ljava/lang/Object;)Z"⟩ : MethodName) (head1 (Jvm.Cond.code (⟨"java/util/ArrayList", "add", "(Ljava/lang/Object;)Z"⟩ : MethodName) jdk_38_method_25_code 2 (some .boolean) :: ws) ({ frames := 1, cells := 0, slots := 0, locals := 15 } : Room)) (fun a U => a = #[(.ref ob), (.ref el)] ∧ Z.Warmed39 U.vm ∧ U.heap = h0) (fun _ _ _ _ _ => True) (fun _ U o U' => ∃ v L, o = .returned v ∧ Q_rmA6 Z ob el da ka mc h0 n0 v U'.heap L ∧ FrameEnd U o U' L ({ frames := 1, cells := 0, slots := 0, locals := 15 } : Room).cells ({ frames := 1, cells := 0, slots := 0, locals := 15 } : Room).slots) := by
  refine MetFree.of_bodySF (plainFor_of_name pn_7) hisR ?_
  intro p e s m args below meth c s₁ Bd hml0 hP hK
  obtain ⟨rfl, hZ, hh⟩ := hP
  have hx := Bd.exec
  have hby := Bd.bytes
  have hml : c.maxLocals = 2 := hml0
  have hown : s.vm.findClass "java/util/ArrayList" = some m.cls := findClass_of_methodNamed Bd.named
  have hnm := (name_of_methodNamed Bd.named Bd.method).1
  have X0 : Stand p l e ({ frames := 1, cells := 0, slots := 0, locals := 15 } : Room) s m #[(.ref ob), (.ref el)] below meth c s₁ [] 0 0 := Stand.of_body Bd
  have e0 : s₁.heap = h0 := by rw [← hh, Bd.state]; rfl
  have N0 := Fr.nil n0
  have pre0 : ∀ t, Steps p.tables e below (s₁.setTop (mkF m 0 #[.val (.ref ob), .val (.ref el)] [])) t → Steps p.tables e below (s₁.setTop (entryFrame m #[(.ref ob), (.ref el)] 2)) t := fun t k => castTop (ef_rmA6 m ob el) k
  obtain ⟨T1, X1, e1, st1⟩ := getF X0 hx hZ hown (host := "") (Or.inl (ow hw 78 rfl)) (Via.of (ow hw 79 rfl)) e0 F_modCount_ob (g := (mkF m 2 #[.val (.ref ob), .val (.ref el)] [(.ref ob), (.ref ob)])) rfl rfl (hb hby d13_2)
  obtain ⟨T2, h2, X2, e2, W2, st2⟩ := putF X1 hx hZ hown (host := "") (Or.inl (ow hw 78 rfl)) (Via.of (ow hw 79 rfl)) e1 F_modCount_ob E_ob (Or.inl (ow hw 69 rfl)) (ow hw 50 rfl) (ty := .int) (by decide) rfl rfl (g := (mkF m 7 #[.val (.ref ob), .val (.ref el)] [(.int (mc + (1 : Int32))), (.ref ob)])) rfl rfl (hb hby d13_7)
  have Fw2 := F_modCount_ob.same W2
  have N2 := Fr.snoc X2 N0 g_ob
  have f3 : Fld Z h2 ob "java/util/ArrayList" "elementData" "[Ljava/lang/Object;" (.ref da) := (F_elementData_ob.other W2 (Or.inr (slot_ne (Or.inl (ow hw 72 rfl)) (Or.inl (ow hw 69 rfl)) (by decide) (t := (.array (.object "java/lang/Object"))) (t' := .int) (by decide) (by decide))))
  obtain ⟨T4, X4, e4, st4⟩ := getF X2 hx hZ hown (host := "") (Or.inl (ow hw 71 rfl)) Via.refl e2 f3 (g := (mkF m 13 #[.val (.ref ob), .val (.ref el)] [(.ref ob), (.ref el), (.ref ob)])) rfl rfl (hb hby d13_13)
  have f5 : Fld Z h2 ob "java/util/ArrayList" "size" "I" (.int (6 : Int32)) := (F_size_ob.other W2 (Or.inr (slot_ne (Or.inl (ow hw 81 rfl)) (Or.inl (ow hw 69 rfl)) (by decide) (t := .int) (t' := .int) (by decide) (by decide))))
  obtain ⟨T6, X6, e6, st6⟩ := getF X4 hx hZ hown (host := "") (Or.inl (ow hw 80 rfl)) Via.refl e4 f5 (g := (mkF m 17 #[.val (.ref ob), .val (.ref el)] [(.ref ob), (.ref da), (.ref el), (.ref ob)])) rfl rfl (hb hby d13_17)
  have f8 : Exa Z h2 ob "java/util/ArrayList" := (E_ob.wr W2)
  have f9 : Arv Z h2 da ka (.object "java/lang/Object") (10 : Int32) [(.ref el), (.ref el), (.ref el), (.ref el), (.ref el), (.ref el), .null, .null, .null, .null] .null := (V_da.other W2 ne_da_ob)
  have f10 : Exa Z h2 el "com/example/sortition/sortition/Element" := (E_el.wr W2)
  obtain ⟨cq7, q7, q7'⟩ := f8.cell
  obtain ⟨_, _, ⟨T7, L7, k7, n7⟩, -, X7, ⟨Lc7, hQ7, l7, y7, z7⟩, st7⟩ := X6.privateBack hx (y := (⟨"java/util/ArrayList", "add", "(Ljava/lang/Object;[Ljava/lang/Object;I)V"⟩ : MethodName)) hown (mvT hZ (ow hw 82 rfl)) (mvT hZ (ow hw 83 rfl)) (mvT hZ (ow hw 85 rfl)) (Cond.privateMethod_at (mvP hZ (ow hw 84 rfl) (args := #[]))) (mvT hZ (ow hw 86 rfl)) (by decide) (backOf (W := 0) (rmH6 l Z a0 hw [] ob el da ka (mc + (1 : Int32)) h2 n0 (Nat.le_trans Z0 (Keep.of_wr W2).1) Fw2 f8 f3 f5 f9 hov f10 g_da (Ne.symm ne_da_ob) g_ob) hZ (ow hw 86 rfl) (ow hw 51 rfl) (by decide) (by decide)) (g := (mkF m 20 #[.val (.ref ob), .val (.ref el)] [(.int (6 : Int32)), (.ref da), (.ref el), (.ref ob)])) rfl (by rw [hml]; rfl) (Steps.refl _) (a := ob) (by rw [e6]; exact q7) q7' (argsL := [(.ref el), (.ref da), (.int (6 : Int32))]) (rest := []) (lenOf pd_6 rfl) rfl (by show 2 * 0 + _ ≤ _; exact Nat.le_of_eq rfl) (hb hby d13_20) (fun _ _ => ⟨rfl, e6, (by decide : 0 + 0 ≤ _), (by decide : 0 + 0 ≤ _)⟩)
  dsimp only [Pt.U, Pt.locs, Pt.cells, Pt.slots] at X7 l7 y7 z7 st7 hQ7
  subst l7 y7 z7
  obtain ⟨rfl, Nq7, Kp7, Fq7_0, Fq7_1, Fq7_2, Fq7_3, Fq7_4⟩ := hQ7
  have N7 := Fr.app N2 Nq7
  obtain ⟨fs, hr, hrun, hended, hW, hsame⟩ := X7.leave (v := some (.int (1 : Int32))) (fun h => by rw [Bd.returns] at h; cases h)
  refine ⟨_, _, pre0 _ ?_, hrun, hended, _, _, rfl, ?_, ⟨_, rfl⟩, hW, hsame.mono (by decide) (by decide)⟩
  · show Steps p.tables e below (s₁.setTop (mkF m 0 #[.val (.ref ob), .val (.ref el)] [])) _
    refine XS.aloadN X0.here hx rfl (hb hby d13_0) rfl rfl ?_
    show Steps p.tables e below (s₁.setTop (mkF m 1 #[.val (.ref ob), .val (.ref el)] [(.ref ob)])) _
    refine XS.dup X0.here hx rfl (hb hby d13_1) rfl rfl ?_
    show Steps p.tables e below (s₁.setTop (mkF m 2 #[.val (.ref ob), .val (.ref el)] [(.ref ob), (.ref ob)])) _
    refine st1 _ ?_
    show Steps p.tables e below (T1.setTop (mkF m 5 #[.val (.ref ob), .val (.ref el)] [(.int mc), (.ref ob)])) _
    refine XS.iconst X1.here hx rfl (hb hby d13_5) ?_
    show Steps p.tables e below (T1.setTop (mkF m 6 #[.val (.ref ob), .val (.ref el)] [(.int (1 : Int32)), (.int mc), (.ref ob)])) _
    refine XS.iadd X1.here hx rfl (hb hby d13_6) rfl ?_
    show Steps p.tables e below (T1.setTop (mkF m 7 #[.val (.ref ob), .val (.ref el)] [(.int (mc + (1 : Int32))), (.ref ob)])) _
    refine st2 _ ?_
    show Steps p.tables e below (T2.setTop (mkF m 10 #[.val (.ref ob), .val (.ref el)] [])) _
    refine XS.aloadN X2.here hx rfl (hb hby d13_10) rfl rfl ?_
    show Steps p.tables e below (T2.setTop (mkF m 11 #[.val (.ref ob), .val (.ref el)] [(.ref ob)])) _
    refine XS.aloadN X2.here hx rfl (hb hby d13_11) rfl rfl ?_
    show Steps p.tables e below (T2.setTop (mkF m 12 #[.val (.ref ob), .val (.ref el)] [(.ref el), (.ref ob)])) _
    refine XS.aloadN X2.here hx rfl (hb hby d13_12) rfl rfl ?_
    show Steps p.tables e below (T2.setTop (mkF m 13 #[.val (.ref ob), .val (.ref el)] [(.ref ob), (.ref el), (.ref ob)])) _
    refine st4 _ ?_
    show Steps p.tables e below (T4.setTop (mkF m 16 #[.val (.ref ob), .val (.ref el)] [(.ref da), (.ref el), (.ref ob)])) _
    refine XS.aloadN X4.here hx rfl (hb hby d13_16) rfl rfl ?_
    show Steps p.tables e below (T4.setTop (mkF m 17 #[.val (.ref ob), .val (.ref el)] [(.ref ob), (.ref da), (.ref el), (.ref ob)])) _
    refine st6 _ ?_
    show Steps p.tables e below (T6.setTop (mkF m 20 #[.val (.ref ob), .val (.ref el)] [(.int (6 : Int32)), (.ref da), (.ref el), (.ref ob)])) _
    refine st7.trans ?_
    show Steps p.tables e below (T7.setTop (mkF m 23 #[.val (.ref ob), .val (.ref el)] [])) _
    refine XS.iconst X7.here hx rfl (hb hby d13_23) ?_
    show Steps p.tables e below (T7.setTop (mkF m 24 #[.val (.ref ob), .val (.ref el)] [(.int (1 : Int32))])) _
    exact retN X7 hx (t := .boolean) Bd.returns (by simp) (hb hby d13_24) hr
  · show Q_rmA6 Z ob el da ka mc h0 n0 _ T7.heap _
    exact ⟨rfl, N7, (((Keep.refl h0 [ob, da]).wr W2 (Or.inl (List.mem_of_getElem? (i := 0) rfl))).trans Kp7 (allS (Or.inl (List.mem_of_getElem? (i := 0) rfl)) (allS (Or.inl (List.mem_of_getElem? (i := 1) rfl)) all0))), Fq7_0, Fq7_1, Fq7_2, Fq7_3, Fq7_4⟩
theorem d14_0 : decode prog_48_method_2_code 0 = .ok (.aload_n 1, 1) := by decide +kernel
theorem d14_1 : decode prog_48_method_2_code 1 = .ok (.invokeinterface 22 1, 5) := by decide +kernel
theorem pd_7 : parseMethodDescriptor "()I" = some ⟨[], some .int⟩ := by decide +kernel
theorem d14_6 : decode prog_48_method_2_code 6 = .ok (.aload_n 0, 1) := by decide +kernel
theorem d14_7 : decode prog_48_method_2_code 7 = .ok (.getfield 16, 3) := by decide +kernel
theorem d14_10 : decode prog_48_method_2_code 10 = .ok (.if_icmp .gt 7, 3) := by decide +kernel
theorem d14_17 : decode prog_48_method_2_code 17 = .ok (.iconst 0, 1) := by decide +kernel
theorem d14_18 : decode prog_48_method_2_code 18 = .ok (.ireturn, 1) := by decide +kernel
def Q_rmAW_t (Z : State) (ob : Addr) (ls : Addr) (zz : Int32) (w_size_ob : Int32) (h0 : Heap) (n0 : Nat) (v : Option Value) (h : Heap) (L : List Loc) : Prop := v = some (.int (0 : Int32)) ∧ Fr n0 L ∧ h = h0
theorem ef_rmAW_t (m : MethodId) (ob : Addr) (ls : Addr) : entryFrame m #[(.ref ob), (.ref ls)] 2 = mkF m 0 #[.val (.ref ob), .val (.ref ls)] [] := by first | (simp [entryFrame, mkF, argsToLocals, Value.category]; done) | rfl
set_option maxRecDepth 65536 in
set_option maxHeartbeats 40000000 in
theorem rmAW_t (l : Launch) (Z : State) (a0 : Array Value) (hw : ∀ d ∈ tables_1, d.before a0 Z = true) (ws : List Jvm.Cond) (ob : Addr) (ls : Addr) (zz : Int32) (w_size_ob : Int32) (h0 : Heap) (n0 : Nat) (Z0 : n0 ≤ h0.size) (E_ls : Exa Z h0 ls "java/util/ArrayList") (F_size_ls : Fld Z h0 ls "java/util/ArrayList" "size" "I" (.int zz)) (F_size_ob : Fld Z h0 ob "com/example/sortition/sortition/Slots" "size" "I" (.int w_size_ob)) (hc10 : w_size_ob < zz) :
    MetFree l (⟨"com/example/sortition/sortition/Slots", "allows", "(Ljava/util/List;)Z"⟩ : MethodName) (head1 (Jvm.Cond.code (⟨"com/example/sortition/sortition/Slots", "allows", "(Ljava/util/List;)Z"⟩ : MethodName) prog_48_method_2_code 2 (some .boolean) :: ws) ({ frames := 1, cells := 0, slots := 0, locals := 12 } : Room)) (fun a U => a = #[(.ref ob), (.ref ls)] ∧ Z.Warmed39 U.vm ∧ U.heap = h0) (fun _ _ _ _ _ => True) (fun _ U o U' => ∃ v L, o = .returned v ∧ Q_rmAW_t Z ob ls zz w_size_ob h0 n0 v U'.heap L ∧ FrameEnd U o U' L ({ frames := 1, cells := 0, slots := 0, locals := 12 } : Room).cells ({ frames := 1, cells := 0, slots := 0, locals := 12 } : Room).slots) := by
  refine MetFree.of_bodySF (plainFor_of_name pn_4) hisR ?_
  intro p e s m args below meth c s₁ Bd hml0 hP hK
  obtain ⟨rfl, hZ, hh⟩ := hP
  have hx := Bd.exec
  have hby := Bd.bytes
  have hml : c.maxLocals = 2 := hml0
  have hown : s.vm.findClass "com/example/sortition/sortition/Slots" = some m.cls := findClass_of_methodNamed Bd.named
  have hnm := (name_of_methodNamed Bd.named Bd.method).1
  have X0 : Stand p l e ({ frames := 1, cells := 0, slots := 0, locals := 12 } : Room) s m #[(.ref ob), (.ref ls)] below meth c s₁ [] 0 0 := Stand.of_body Bd
  have e0 : s₁.heap = h0 := by rw [← hh, Bd.state]; rfl
  have N0 := Fr.nil n0
  have pre0 : ∀ t, Steps p.tables e below (s₁.setTop (mkF m 0 #[.val (.ref ob), .val (.ref ls)] [])) t → Steps p.tables e below (s₁.setTop (entryFrame m #[(.ref ob), (.ref ls)] 2)) t := fun t k => castTop (ef_rmAW_t m ob ls) k
  obtain ⟨cq1, kq1, q1a, q1b, q1c⟩ := isOf hZ e0 E_ls
  obtain ⟨_, _, ⟨T1, L1, k1, n1⟩, -, X1, ⟨Lc1, hQ1, l1, y1, z1⟩, st1⟩ := X0.interfaceBack hx (xi := (⟨"java/util/List", "size", "()I"⟩ : MethodName)) (y := (⟨"java/util/ArrayList", "size", "()I"⟩ : MethodName)) hown (mvT hZ (ow hw 109 rfl)) (mvT hZ (ow hw 110 rfl)) (mvT hZ (ow hw 111 rfl)) (mvT hZ (ow hw 112 rfl)) (mvT hZ (ow hw 113 rfl)) (mvT hZ (ow hw 114 rfl)) (mvT hZ (ow hw 115 rfl)) (mvT hZ (ow hw 116 rfl)) (by decide) (backOf (W := 0) (rmSz l Z a0 hw [] ls zz h0 n0 Z0 F_size_ls) hZ (ow hw 117 rfl) (ow hw 51 rfl) (by decide) (by decide)) q1a q1b q1c (g := (mkF m 1 #[.val (.ref ob), .val (.ref ls)] [(.ref ls)])) rfl (by rw [hml]; rfl) (Steps.refl _) (argsL := []) (rest := []) (lenOf pd_7 rfl) rfl (by show 2 * 0 + _ ≤ _; exact Nat.le_of_eq rfl) (hb hby d14_1) (fun _ _ => ⟨rfl, e0, (by decide : 0 + 0 ≤ _), (by decide : 0 + 0 ≤ _)⟩)
  dsimp only [Pt.U, Pt.locs, Pt.cells, Pt.slots] at X1 l1 y1 z1 st1 hQ1
  subst l1 y1 z1
  obtain ⟨rfl, Nq1, e1⟩ := hQ1
  have N1 := Fr.app N0 Nq1
  obtain ⟨T2, X2, e2, st2⟩ := getF X1 hx hZ hown (host := "") (Or.inl (ow hw 14 rfl)) Via.refl e1 F_size_ob (g := (mkF m 7 #[.val (.ref ob), .val (.ref ls)] [(.ref ob), (.int zz)])) rfl rfl (hb hby d14_7)
  obtain ⟨fs, hr, hrun, hended, hW, hsame⟩ := X2.leave (v := some (.int (0 : Int32))) (fun h => by rw [Bd.returns] at h; cases h)
  refine ⟨_, _, pre0 _ ?_, hrun, hended, _, _, rfl, ?_, ⟨_, rfl⟩, hW, hsame.mono (by decide) (by decide)⟩
  · show Steps p.tables e below (s₁.setTop (mkF m 0 #[.val (.ref ob), .val (.ref ls)] [])) _
    refine XS.aloadN X0.here hx rfl (hb hby d14_0) rfl rfl ?_
    show Steps p.tables e below (s₁.setTop (mkF m 1 #[.val (.ref ob), .val (.ref ls)] [(.ref ls)])) _
    refine st1.trans ?_
    show Steps p.tables e below (T1.setTop (mkF m 6 #[.val (.ref ob), .val (.ref ls)] [(.int zz)])) _
    refine XS.aloadN X1.here hx rfl (hb hby d14_6) rfl rfl ?_
    show Steps p.tables e below (T1.setTop (mkF m 7 #[.val (.ref ob), .val (.ref ls)] [(.ref ob), (.int zz)])) _
    refine st2 _ ?_
    show Steps p.tables e below (T2.setTop (mkF m 10 #[.val (.ref ob), .val (.ref ls)] [(.int w_size_ob), (.int zz)])) _
    refine XS.icmpYes X2.here hx rfl (pc0 := 10) (pc' := 17) rfl (hb hby d14_10) rfl (tlt hc10).2.2.1 (by decide) (by decide) ?_
    show Steps p.tables e below (T2.setTop (mkF m 17 #[.val (.ref ob), .val (.ref ls)] [])) _
    refine XS.iconst X2.here hx rfl (hb hby d14_17) ?_
    show Steps p.tables e below (T2.setTop (mkF m 18 #[.val (.ref ob), .val (.ref ls)] [(.int (0 : Int32))])) _
    exact retN X2 hx (t := .boolean) Bd.returns (by simp) (hb hby d14_18) hr
  · show Q_rmAW_t Z ob ls zz w_size_ob h0 n0 _ T2.heap _
    rw [e2]
    exact ⟨rfl, N1, rfl⟩
theorem d14_13 : decode prog_48_method_2_code 13 = .ok (.iconst 1, 1) := by decide +kernel
theorem d14_14 : decode prog_48_method_2_code 14 = .ok (.goto 4, 3) := by decide +kernel
def Q_rmAW_f (Z : State) (ob : Addr) (ls : Addr) (zz : Int32) (w_size_ob : Int32) (h0 : Heap) (n0 : Nat) (v : Option Value) (h : Heap) (L : List Loc) : Prop := v = some (.int (1 : Int32)) ∧ Fr n0 L ∧ h = h0
theorem ef_rmAW_f (m : MethodId) (ob : Addr) (ls : Addr) : entryFrame m #[(.ref ob), (.ref ls)] 2 = mkF m 0 #[.val (.ref ob), .val (.ref ls)] [] := by first | (simp [entryFrame, mkF, argsToLocals, Value.category]; done) | rfl
set_option maxRecDepth 65536 in
set_option maxHeartbeats 40000000 in
theorem rmAW_f (l : Launch) (Z : State) (a0 : Array Value) (hw : ∀ d ∈ tables_1, d.before a0 Z = true) (ws : List Jvm.Cond) (ob : Addr) (ls : Addr) (zz : Int32) (w_size_ob : Int32) (h0 : Heap) (n0 : Nat) (Z0 : n0 ≤ h0.size) (E_ls : Exa Z h0 ls "java/util/ArrayList") (F_size_ls : Fld Z h0 ls "java/util/ArrayList" "size" "I" (.int zz)) (F_size_ob : Fld Z h0 ob "com/example/sortition/sortition/Slots" "size" "I" (.int w_size_ob)) (hc10 : ¬ (w_size_ob < zz)) :
    MetFree l (⟨"com/example/sortition/sortition/Slots", "allows", "(Ljava/util/List;)Z"⟩ : MethodName) (head1 (Jvm.Cond.code (⟨"com/example/sortition/sortition/Slots", "allows", "(Ljava/util/List;)Z"⟩ : MethodName) prog_48_method_2_code 2 (some .boolean) :: ws) ({ frames := 1, cells := 0, slots := 0, locals := 12 } : Room)) (fun a U => a = #[(.ref ob), (.ref ls)] ∧ Z.Warmed39 U.vm ∧ U.heap = h0) (fun _ _ _ _ _ => True) (fun _ U o U' => ∃ v L, o = .returned v ∧ Q_rmAW_f Z ob ls zz w_size_ob h0 n0 v U'.heap L ∧ FrameEnd U o U' L ({ frames := 1, cells := 0, slots := 0, locals := 12 } : Room).cells ({ frames := 1, cells := 0, slots := 0, locals := 12 } : Room).slots) := by
  refine MetFree.of_bodySF (plainFor_of_name pn_4) hisR ?_
  intro p e s m args below meth c s₁ Bd hml0 hP hK
  obtain ⟨rfl, hZ, hh⟩ := hP
  have hx := Bd.exec
  have hby := Bd.bytes
  have hml : c.maxLocals = 2 := hml0
  have hown : s.vm.findClass "com/example/sortition/sortition/Slots" = some m.cls := findClass_of_methodNamed Bd.named
  have hnm := (name_of_methodNamed Bd.named Bd.method).1
  have X0 : Stand p l e ({ frames := 1, cells := 0, slots := 0, locals := 12 } : Room) s m #[(.ref ob), (.ref ls)] below meth c s₁ [] 0 0 := Stand.of_body Bd
  have e0 : s₁.heap = h0 := by rw [← hh, Bd.state]; rfl
  have N0 := Fr.nil n0
  have pre0 : ∀ t, Steps p.tables e below (s₁.setTop (mkF m 0 #[.val (.ref ob), .val (.ref ls)] [])) t → Steps p.tables e below (s₁.setTop (entryFrame m #[(.ref ob), (.ref ls)] 2)) t := fun t k => castTop (ef_rmAW_f m ob ls) k
  obtain ⟨cq1, kq1, q1a, q1b, q1c⟩ := isOf hZ e0 E_ls
  obtain ⟨_, _, ⟨T1, L1, k1, n1⟩, -, X1, ⟨Lc1, hQ1, l1, y1, z1⟩, st1⟩ := X0.interfaceBack hx (xi := (⟨"java/util/List", "size", "()I"⟩ : MethodName)) (y := (⟨"java/util/ArrayList", "size", "()I"⟩ : MethodName)) hown (mvT hZ (ow hw 109 rfl)) (mvT hZ (ow hw 110 rfl)) (mvT hZ (ow hw 111 rfl)) (mvT hZ (ow hw 112 rfl)) (mvT hZ (ow hw 113 rfl)) (mvT hZ (ow hw 114 rfl)) (mvT hZ (ow hw 115 rfl)) (mvT hZ (ow hw 116 rfl)) (by decide) (backOf (W := 0) (rmSz l Z a0 hw [] ls zz h0 n0 Z0 F_size_ls) hZ (ow hw 117 rfl) (ow hw 51 rfl) (by decide) (by decide)) q1a q1b q1c (g := (mkF m 1 #[.val (.ref ob), .val (.ref ls)] [(.ref ls)])) rfl (by rw [hml]; rfl) (Steps.refl _) (argsL := []) (rest := []) (lenOf pd_7 rfl) rfl (by show 2 * 0 + _ ≤ _; exact Nat.le_of_eq rfl) (hb hby d14_1) (fun _ _ => ⟨rfl, e0, (by decide : 0 + 0 ≤ _), (by decide : 0 + 0 ≤ _)⟩)
  dsimp only [Pt.U, Pt.locs, Pt.cells, Pt.slots] at X1 l1 y1 z1 st1 hQ1
  subst l1 y1 z1
  obtain ⟨rfl, Nq1, e1⟩ := hQ1
  have N1 := Fr.app N0 Nq1
  obtain ⟨T2, X2, e2, st2⟩ := getF X1 hx hZ hown (host := "") (Or.inl (ow hw 14 rfl)) Via.refl e1 F_size_ob (g := (mkF m 7 #[.val (.ref ob), .val (.ref ls)] [(.ref ob), (.int zz)])) rfl rfl (hb hby d14_7)
  obtain ⟨fs, hr, hrun, hended, hW, hsame⟩ := X2.leave (v := some (.int (1 : Int32))) (fun h => by rw [Bd.returns] at h; cases h)
  refine ⟨_, _, pre0 _ ?_, hrun, hended, _, _, rfl, ?_, ⟨_, rfl⟩, hW, hsame.mono (by decide) (by decide)⟩
  · show Steps p.tables e below (s₁.setTop (mkF m 0 #[.val (.ref ob), .val (.ref ls)] [])) _
    refine XS.aloadN X0.here hx rfl (hb hby d14_0) rfl rfl ?_
    show Steps p.tables e below (s₁.setTop (mkF m 1 #[.val (.ref ob), .val (.ref ls)] [(.ref ls)])) _
    refine st1.trans ?_
    show Steps p.tables e below (T1.setTop (mkF m 6 #[.val (.ref ob), .val (.ref ls)] [(.int zz)])) _
    refine XS.aloadN X1.here hx rfl (hb hby d14_6) rfl rfl ?_
    show Steps p.tables e below (T1.setTop (mkF m 7 #[.val (.ref ob), .val (.ref ls)] [(.ref ob), (.int zz)])) _
    refine st2 _ ?_
    show Steps p.tables e below (T2.setTop (mkF m 10 #[.val (.ref ob), .val (.ref ls)] [(.int w_size_ob), (.int zz)])) _
    refine XS.icmpNo X2.here hx rfl (hb hby d14_10) rfl (flt hc10).2.2.1 ?_
    show Steps p.tables e below (T2.setTop (mkF m 13 #[.val (.ref ob), .val (.ref ls)] [])) _
    refine XS.iconst X2.here hx rfl (hb hby d14_13) ?_
    show Steps p.tables e below (T2.setTop (mkF m 14 #[.val (.ref ob), .val (.ref ls)] [(.int (1 : Int32))])) _
    refine XS.goto X2.here hx rfl (pc0 := 14) (pc' := 18) rfl (hb hby d14_14) (by decide) (by decide) ?_
    show Steps p.tables e below (T2.setTop (mkF m 18 #[.val (.ref ob), .val (.ref ls)] [(.int (1 : Int32))])) _
    exact retN X2 hx (t := .boolean) Bd.returns (by simp) (hb hby d14_18) hr
  · show Q_rmAW_f Z ob ls zz w_size_ob h0 n0 _ T2.heap _
    rw [e2]
    exact ⟨rfl, N1, rfl⟩
theorem own_de {Z : State} {args : Array Value} {t : Term} {ty : FieldType} {dv : Value} (hf : Fit Z) (hx : (Cond.arrayOf t ty).before args Z = true) (hl : (Cond.eq (Term.length t) (.int 0)).before args Z = true) : ∃ (a : Addr) (k : ClassId), t.eval args Z none [] Z = some (.ref a) ∧ Arv Z Z.heap a k ty (0 : Int32) [] dv := by
  have hl' := Cond.before_iff.mp hl
  cases hv : (Term.length t).eval args Z none [] Z with
  | none => simp [Cond.value, hv] at hl'
  | some v =>
    obtain ⟨x, cl, e1, e2, e4⟩ := Term.length_spec hv
    have e3 : cl.slots.size < 2 ^ 31 := by
      by_cases q : cl.slots.size < 2 ^ 31
      · exact q
      · simp [Term.eval, e1, e2] at hv
        exact absurd hv.1 (by simpa using q)
    obtain ⟨c, A⟩ := Arr.start e1 (Cond.before_iff.mp hx)
    have hc : cl = c := by
      have := Arr.fin (U := Z) (Vm.Alike.refl _) A
      exact Option.some.inj (e2.symm.trans this)
    subst hc
    subst e4
    have h0 := gotT (Cond.eq_ints hv (Term.int_eval (0))) hl'
    exact ⟨x, cl.cls, e1, Arv.start hf A e3 h0 (by decide) rfl trivial⟩
theorem own_cases (a : Int32) : (a &&& (7 : Int32)) = 0 ∨ (a &&& (7 : Int32)) = 1 ∨ (a &&& (7 : Int32)) = 2 ∨ (a &&& (7 : Int32)) = 3 ∨ (a &&& (7 : Int32)) = 4 ∨ (a &&& (7 : Int32)) = 5 ∨ (a &&& (7 : Int32)) = 6 ∨ (a &&& (7 : Int32)) = 7 := by
  have h1 := c_mask a (7 : Int32) 3 (by decide) (by decide)
  simp only [← Int32.toInt_inj]
  rw [show (0 : Int32).toInt = 0 by decide, show (1 : Int32).toInt = 1 by decide, show (2 : Int32).toInt = 2 by decide, show (3 : Int32).toInt = 3 by decide, show (4 : Int32).toInt = 4 by decide, show (5 : Int32).toInt = 5 by decide, show (6 : Int32).toInt = 6 by decide, show (7 : Int32).toInt = 7 by decide]
  omega
theorem own_31 (j : Int32) : ¬ (j &&& (2147483647 : Int32)) < (0 : Int32) := by
  have h1 := c_mask j (2147483647 : Int32) 31 (by decide) (by decide)
  intro q
  have := Int32.lt_iff_toInt_lt.mp q
  rw [show (0 : Int32).toInt = 0 by decide] at this
  omega
theorem own_7 (j : Int32) : ¬ (j &&& (7 : Int32)) < (0 : Int32) := by
  have h1 := c_mask j (7 : Int32) 3 (by decide) (by decide)
  intro q
  have := Int32.lt_iff_toInt_lt.mp q
  rw [show (0 : Int32).toInt = 0 by decide] at this
  omega
theorem own_nn1 : NoNaN64 (FP.dadd 4607182418800017408 0) := noNaN64_no.mpr (by decide +kernel)
set_option maxRecDepth 65536 in
set_option maxHeartbeats 40000000 in
theorem pAt {p : Program} {l : Launch} {e : Env} {R : Room} {s : State} {m : MethodId} {args : Array Value} {below : List Frame} {meth : Method} {c : Code} {T0 : State} {locs : List Loc} {cells slots : Nat} {Z : State} {a0 : Array Value} (ja : Int32) (jb : Int32)
    (X0 : Stand p l e R s m args below meth c T0 locs cells slots) (hx : p.tables.exec = Jvm.exec) (hZ : Z.Warmed39 s.vm) (hw : ∀ d ∈ tables_1, d.before a0 Z = true) (hby : c.code = code) (hown : s.vm.findClass "com/example/sortition/sortition/SlotsAllowsPinLaw" = some m.cls) (hc5 : (((jb.toUInt32 >>> ((3 : Int32) &&& 31).toUInt32).toInt32) &&& (1 : Int32)) = (0 : Int32)) :
    ∀ target, Steps p.tables e below (T0.setTop (mkF m 20 #[.val (.int ja), .val (.int jb), .val (.int (ja &&& (7 : Int32))), .unset, .unset, .unset, .unset, .unset] [])) target → Steps p.tables e below (T0.setTop (mkF m 0 #[.val (.int ja), .val (.int jb), .unset, .unset, .unset, .unset, .unset, .unset] [])) target := by
  intro target kt
  show Steps p.tables e below (T0.setTop (mkF m 0 #[.val (.int ja), .val (.int jb), .unset, .unset, .unset, .unset, .unset, .unset] [])) _
  refine XS.iloadN X0.here hx rfl (hb hby at_0) rfl ?_
  show Steps p.tables e below (T0.setTop (mkF m 1 #[.val (.int ja), .val (.int jb), .unset, .unset, .unset, .unset, .unset, .unset] [(.int jb)])) _
  refine XS.iconst X0.here hx rfl (hb hby at_1) ?_
  show Steps p.tables e below (T0.setTop (mkF m 2 #[.val (.int ja), .val (.int jb), .unset, .unset, .unset, .unset, .unset, .unset] [(.int (3 : Int32)), (.int jb)])) _
  refine XS.iushr X0.here hx rfl (hb hby at_2) rfl ?_
  show Steps p.tables e below (T0.setTop (mkF m 3 #[.val (.int ja), .val (.int jb), .unset, .unset, .unset, .unset, .unset, .unset] [(.int ((jb.toUInt32 >>> ((3 : Int32) &&& 31).toUInt32).toInt32))])) _
  refine XS.iconst X0.here hx rfl (hb hby at_3) ?_
  show Steps p.tables e below (T0.setTop (mkF m 4 #[.val (.int ja), .val (.int jb), .unset, .unset, .unset, .unset, .unset, .unset] [(.int (1 : Int32)), (.int ((jb.toUInt32 >>> ((3 : Int32) &&& 31).toUInt32).toInt32))])) _
  refine XS.iand X0.here hx rfl (hb hby at_4) rfl ?_
  show Steps p.tables e below (T0.setTop (mkF m 5 #[.val (.int ja), .val (.int jb), .unset, .unset, .unset, .unset, .unset, .unset] [(.int (((jb.toUInt32 >>> ((3 : Int32) &&& 31).toUInt32).toInt32) &&& (1 : Int32)))])) _
  refine XS.ifYes X0.here hx rfl (pc0 := 5) (pc' := 15) rfl (hb hby at_5) rfl ((if0 _ _).trans (teq hc5).1) (by decide) (by decide) ?_
  show Steps p.tables e below (T0.setTop (mkF m 15 #[.val (.int ja), .val (.int jb), .unset, .unset, .unset, .unset, .unset, .unset] [])) _
  refine XS.iloadN X0.here hx rfl (hb hby at_15) rfl ?_
  show Steps p.tables e below (T0.setTop (mkF m 16 #[.val (.int ja), .val (.int jb), .unset, .unset, .unset, .unset, .unset, .unset] [(.int ja)])) _
  refine XS.bipush X0.here hx rfl (hb hby at_16) ?_
  show Steps p.tables e below (T0.setTop (mkF m 18 #[.val (.int ja), .val (.int jb), .unset, .unset, .unset, .unset, .unset, .unset] [(.int (7 : Int32)), (.int ja)])) _
  refine XS.iand X0.here hx rfl (hb hby at_18) rfl ?_
  show Steps p.tables e below (T0.setTop (mkF m 19 #[.val (.int ja), .val (.int jb), .unset, .unset, .unset, .unset, .unset, .unset] [(.int (ja &&& (7 : Int32)))])) _
  refine XS.istoreN X0.here hx rfl (hb hby at_19) rfl (l' := #[.val (.int ja), .val (.int jb), .val (.int (ja &&& (7 : Int32))), .unset, .unset, .unset, .unset, .unset]) rfl ?_
  exact kt
set_option maxRecDepth 65536 in
set_option maxHeartbeats 40000000 in
theorem pAf {p : Program} {l : Launch} {e : Env} {R : Room} {s : State} {m : MethodId} {args : Array Value} {below : List Frame} {meth : Method} {c : Code} {T0 : State} {locs : List Loc} {cells slots : Nat} {Z : State} {a0 : Array Value} (ja : Int32) (jb : Int32)
    (X0 : Stand p l e R s m args below meth c T0 locs cells slots) (hx : p.tables.exec = Jvm.exec) (hZ : Z.Warmed39 s.vm) (hw : ∀ d ∈ tables_1, d.before a0 Z = true) (hby : c.code = code) (hown : s.vm.findClass "com/example/sortition/sortition/SlotsAllowsPinLaw" = some m.cls) (hc5 : ¬ ((((jb.toUInt32 >>> ((3 : Int32) &&& 31).toUInt32).toInt32) &&& (1 : Int32)) = (0 : Int32))) :
    ∀ target, Steps p.tables e below (T0.setTop (mkF m 20 #[.val (.int ja), .val (.int jb), .val (.int (ja &&& (2147483647 : Int32))), .unset, .unset, .unset, .unset, .unset] [])) target → Steps p.tables e below (T0.setTop (mkF m 0 #[.val (.int ja), .val (.int jb), .unset, .unset, .unset, .unset, .unset, .unset] [])) target := by
  intro target kt
  show Steps p.tables e below (T0.setTop (mkF m 0 #[.val (.int ja), .val (.int jb), .unset, .unset, .unset, .unset, .unset, .unset] [])) _
  refine XS.iloadN X0.here hx rfl (hb hby at_0) rfl ?_
  show Steps p.tables e below (T0.setTop (mkF m 1 #[.val (.int ja), .val (.int jb), .unset, .unset, .unset, .unset, .unset, .unset] [(.int jb)])) _
  refine XS.iconst X0.here hx rfl (hb hby at_1) ?_
  show Steps p.tables e below (T0.setTop (mkF m 2 #[.val (.int ja), .val (.int jb), .unset, .unset, .unset, .unset, .unset, .unset] [(.int (3 : Int32)), (.int jb)])) _
  refine XS.iushr X0.here hx rfl (hb hby at_2) rfl ?_
  show Steps p.tables e below (T0.setTop (mkF m 3 #[.val (.int ja), .val (.int jb), .unset, .unset, .unset, .unset, .unset, .unset] [(.int ((jb.toUInt32 >>> ((3 : Int32) &&& 31).toUInt32).toInt32))])) _
  refine XS.iconst X0.here hx rfl (hb hby at_3) ?_
  show Steps p.tables e below (T0.setTop (mkF m 4 #[.val (.int ja), .val (.int jb), .unset, .unset, .unset, .unset, .unset, .unset] [(.int (1 : Int32)), (.int ((jb.toUInt32 >>> ((3 : Int32) &&& 31).toUInt32).toInt32))])) _
  refine XS.iand X0.here hx rfl (hb hby at_4) rfl ?_
  show Steps p.tables e below (T0.setTop (mkF m 5 #[.val (.int ja), .val (.int jb), .unset, .unset, .unset, .unset, .unset, .unset] [(.int (((jb.toUInt32 >>> ((3 : Int32) &&& 31).toUInt32).toInt32) &&& (1 : Int32)))])) _
  refine XS.ifNo X0.here hx rfl (hb hby at_5) rfl ((if0 _ _).trans (feq hc5).1) ?_
  show Steps p.tables e below (T0.setTop (mkF m 8 #[.val (.int ja), .val (.int jb), .unset, .unset, .unset, .unset, .unset, .unset] [])) _
  refine XS.iloadN X0.here hx rfl (hb hby at_8) rfl ?_
  show Steps p.tables e below (T0.setTop (mkF m 9 #[.val (.int ja), .val (.int jb), .unset, .unset, .unset, .unset, .unset, .unset] [(.int ja)])) _
  refine X0.ldcInt hx hown (mvT hZ (ow hw 118 rfl)) (g := (mkF m 9 #[.val (.int ja), .val (.int jb), .unset, .unset, .unset, .unset, .unset, .unset] [(.int ja)])) rfl (hb hby at_9) _ ?_
  show Steps p.tables e below (T0.setTop (mkF m 11 #[.val (.int ja), .val (.int jb), .unset, .unset, .unset, .unset, .unset, .unset] [(.int (2147483647 : Int32)), (.int ja)])) _
  refine XS.iand X0.here hx rfl (hb hby at_11) rfl ?_
  show Steps p.tables e below (T0.setTop (mkF m 12 #[.val (.int ja), .val (.int jb), .unset, .unset, .unset, .unset, .unset, .unset] [(.int (ja &&& (2147483647 : Int32)))])) _
  refine XS.goto X0.here hx rfl (pc0 := 12) (pc' := 19) rfl (hb hby at_12) (by decide) (by decide) ?_
  show Steps p.tables e below (T0.setTop (mkF m 19 #[.val (.int ja), .val (.int jb), .unset, .unset, .unset, .unset, .unset, .unset] [(.int (ja &&& (2147483647 : Int32)))])) _
  refine XS.istoreN X0.here hx rfl (hb hby at_19) rfl (l' := #[.val (.int ja), .val (.int jb), .val (.int (ja &&& (2147483647 : Int32))), .unset, .unset, .unset, .unset, .unset]) rfl ?_
  exact kt
def own_k (ja jb : Int32) : Int32 := if (((jb.toUInt32 >>> ((3 : Int32) &&& 31).toUInt32).toInt32) &&& (1 : Int32)) = (0 : Int32) then (ja &&& (7 : Int32)) else (ja &&& (2147483647 : Int32))
theorem own_k_ge (ja jb : Int32) : ¬ own_k ja jb < (0 : Int32) := by unfold own_k; split; exact own_7 _; exact own_31 _
theorem own_pre {p : Program} {l : Launch} {e : Env} {R : Room} {s : State} {m : MethodId} {args : Array Value} {below : List Frame} {meth : Method} {c : Code} {T0 : State} {locs : List Loc} {cells slots : Nat} {Z : State} {a0 : Array Value} (ja jb : Int32) (X0 : Stand p l e R s m args below meth c T0 locs cells slots) (hx : p.tables.exec = Jvm.exec) (hZ : Z.Warmed39 s.vm) (hw : ∀ d ∈ tables_1, d.before a0 Z = true) (hby : c.code = code) (hown : s.vm.findClass "com/example/sortition/sortition/SlotsAllowsPinLaw" = some m.cls) : ∀ target, Steps p.tables e below (T0.setTop (mkF m 20 #[.val (.int ja), .val (.int jb), .val (.int (own_k ja jb)), .unset, .unset, .unset, .unset, .unset] [])) target → Steps p.tables e below (T0.setTop (mkF m 0 #[.val (.int ja), .val (.int jb), .unset, .unset, .unset, .unset, .unset, .unset] [])) target := by
  unfold own_k
  by_cases h : (((jb.toUInt32 >>> ((3 : Int32) &&& 31).toUInt32).toInt32) &&& (1 : Int32)) = (0 : Int32)
  · rw [if_pos h]; exact pAt ja jb X0 hx hZ hw hby hown h
  · rw [if_neg h]; exact pAf ja jb X0 hx hZ hw hby hown h
theorem pd_8 : parseMethodDescriptor "(I)V" = some ⟨[.int], none⟩ := by decide +kernel
theorem pd_9 : parseMethodDescriptor "(ILjava/lang/String;D)V" = some ⟨[.int, (.object "java/lang/String"), .double], none⟩ := by decide +kernel
theorem pd_10 : parseMethodDescriptor "(Ljava/util/List;)Z" = some ⟨[(.object "java/util/List")], some .boolean⟩ := by decide +kernel
theorem pn_8 : plainName "com/example/sortition/sortition/SlotsAllowsPinLaw" = true := by first | (simp [plainName, overriddenIn]; done) | decide +kernel
def Q_rm0_0t (Z : State) (ja : Int32) (jb : Int32) (kk : Int32) (de : Addr) (kd : ClassId) (h0 : Heap) (n0 : Nat) (v : Option Value) (h : Heap) (L : List Loc) : Prop := v = some (.int (1 : Int32)) ∧ Fr n0 L
theorem ef_rm0_0t (m : MethodId) (ja : Int32) (jb : Int32) : entryFrame m #[(.int ja), (.int jb)] maxLocals = mkF m 0 #[.val (.int ja), .val (.int jb), .unset, .unset, .unset, .unset, .unset, .unset] [] := by first | (simp [entryFrame, mkF, argsToLocals, Value.category, maxLocals]; done) | rfl
set_option maxRecDepth 65536 in
set_option maxHeartbeats 40000000 in
theorem rm0_0t (l : Launch) (Z : State) (a0 : Array Value) (hw : ∀ d ∈ tables_1, d.before a0 Z = true) (ws : List Jvm.Cond) (ja : Int32) (jb : Int32) (kk : Int32) (de : Addr) (kd : ClassId) (h0 : Heap) (n0 : Nat) (Z0 : n0 ≤ h0.size) (hwS : ∀ a ∈ Bundle.stringAtoms, a.before a0 Z = true) (hn0 : n0 = h0.size) (hcn : Jvm.Lit.constHeld Z "com/example/sortition/sortition/SlotsAllowsPinLaw" 15) (hcw : Jvm.Lit.compactW.before a0 Z = true) (S_DE : Sta Z h0 "java/util/ArrayList" "DEFAULTCAPACITY_EMPTY_ELEMENTDATA" "[Ljava/lang/Object;" (.ref de)) (V_de : Arv Z h0 de kd (.object "java/lang/Object") (0 : Int32) [] .null) (hkk : (own_k ja jb) = kk) (gkk : ¬ (kk < (0 : Int32))) (hn : (jb &&& (7 : Int32)) = (0 : Int32)) (hrd : kk < (0 : Int32)) :
    MetFree l x (head1 (Jvm.Cond.code x code maxLocals ret :: ws) room_1) (fun a U => a = #[(.int ja), (.int jb)] ∧ Z.Warmed39 U.vm ∧ U.heap = h0 ∧ U.vm.interned = Z.vm.interned ∧ (∀ (b : Addr) (cl : Cell), Z.heap[b]? = some cl → U.heap[b]? = some cl)) (fun _ _ _ _ _ => True) (fun _ U o U' => ∃ v L, o = .returned v ∧ Q_rm0_0t Z ja jb kk de kd h0 n0 v U'.heap L ∧ ReturnedEndW U o U' L room_1.cells room_1.slots) := by
  refine MetFree.of_bodySF (plainFor_of_name pn_8) hisR ?_
  intro p e s m args below meth c s₁ Bd hml0 hP hK
  obtain ⟨rfl, hZ, hh, hI0, hK0⟩ := hP
  have hx := Bd.exec
  have hby := Bd.bytes
  have hml : c.maxLocals = 8 := hml0
  have hown : s.vm.findClass "com/example/sortition/sortition/SlotsAllowsPinLaw" = some m.cls := findClass_of_methodNamed Bd.named
  have hnm := (name_of_methodNamed Bd.named Bd.method).1
  have X0 : Stand p l e room_1 s m #[(.int ja), (.int jb)] below meth c s₁ [] 0 0 := Stand.of_body Bd
  have e0 : s₁.heap = h0 := by rw [← hh, Bd.state]; rfl
  have N0 := Fr.nil n0
  have hS0 := (State.WarmedH.refl s).since 0
  have pre0 : ∀ t, Steps p.tables e below (s₁.setTop (mkF m 0 #[.val (.int ja), .val (.int jb), .unset, .unset, .unset, .unset, .unset, .unset] [])) t → Steps p.tables e below (s₁.setTop (entryFrame m #[(.int ja), (.int jb)] maxLocals)) t := fun t k => castTop (ef_rm0_0t m ja jb) k
  have stp := own_pre ja jb X0 hx hZ hw hby hown
  rw [hkk] at stp
  obtain ⟨T1, h1, X1, e1, E1, A1, D1, -, st1⟩ := newO X0 hx hZ hown (ow hw 0 rfl) (ow hw 1 rfl) (ow hw 2 rfl) e0 (g := (mkF m 25 #[.val (.int ja), .val (.int jb), .val (.int kk), .val (.int (0 : Int32)), .unset, .unset, .unset, .unset] [])) rfl (hb hby at_25) (by decide) (by decide)
  obtain ⟨b1, g1⟩ : ∃ z, z = h0.size := ⟨_, rfl⟩
  rw [← g1] at A1 D1 st1
  have F1_3 : Fld Z h1 b1 "com/example/sortition/sortition/Slots" "size" "I" (.int (0 : Int32)) := D1 (Or.inr (ow hw 15 rfl)) (ty := .int) (by decide)
  obtain ⟨_, _, ⟨T2, L2, k2, n2⟩, -, X2, ⟨Lc2, hQ2, l2, y2, z2⟩, st2⟩ := X1.specialBack hx (y := (⟨"com/example/sortition/sortition/Slots", "<init>", "(I)V"⟩ : MethodName)) rfl hown (mvT hZ (ow hw 3 rfl)) (mvT hZ (ow hw 4 rfl)) (mvT hZ (ow hw 5 rfl)) (by decide) (backOf (W := 1) (rmSl l Z a0 hw [] b1 kk (.int (0 : Int32)) h1 n0 (Nat.le_trans Z0 E1.1) gkk F1_3 A1 (Nat.le_trans Z0 (Nat.le_of_eq g1.symm))) hZ (ow hw 5 rfl) (ow hw 2 rfl) (by decide) (by decide)) (g := (mkF m 30 #[.val (.int ja), .val (.int jb), .val (.int kk), .val (.int (0 : Int32)), .unset, .unset, .unset, .unset] [(.int kk), (.ref b1), (.ref b1)])) rfl (by rw [hml]; rfl) (Steps.refl _) (a := b1) (argsL := [(.int kk)]) (rest := [(.ref b1)]) (lenOf pd_8 rfl) rfl (by show 2 * 0 + _ ≤ _; exact Nat.le_of_eq rfl) (hb hby at_30) (fun _ _ => ⟨rfl, e1, (by decide : 1 + 0 ≤ _), (by decide : 1 + 0 ≤ _)⟩)
  dsimp only [Pt.U, Pt.locs, Pt.cells, Pt.slots] at X2 l2 y2 z2 st2 hQ2
  subst l2 y2 z2
  obtain ⟨rfl, Nq2, Kp2, Fq2_0, Fq2_1⟩ := hQ2
  have N2 := Fr.app N0 Nq2
  obtain ⟨T3, h3, X3, e3, E3, A3, D3, -, st3⟩ := newO X2 hx hZ hown (ow hw 16 rfl) (ow hw 17 rfl) (ow hw 18 rfl) rfl (g := (mkF m 35 #[.val (.int ja), .val (.int jb), .val (.int kk), .val (.int (0 : Int32)), .val (.ref b1), .unset, .unset, .unset] [])) rfl (hb hby at_35) (by decide) (by decide)
  obtain ⟨b3, g3⟩ : ∃ z, z = T2.heap.size := ⟨_, rfl⟩
  rw [← g3] at A3 D3 st3
  have F3_5 : Fld Z h3 b3 "com/example/sortition/sortition/Element" "index" "I" (.int (0 : Int32)) := D3 (Or.inr (ow hw 44 rfl)) (ty := .int) (by decide)
  have F3_6 : Fld Z h3 b3 "com/example/sortition/sortition/Element" "id" "Ljava/lang/String;" .null := D3 (Or.inr (ow hw 46 rfl)) (ty := (.object "java/lang/String")) (by decide)
  have F3_7 : Fld Z h3 b3 "com/example/sortition/sortition/Element" "value" "D" (.double 0) := D3 (Or.inr (ow hw 48 rfl)) (ty := .double) (by decide)
  obtain ⟨a4, T4, h4, k4, b4, kc4, X4, e4, E4, hS4, hk4, hZ4, hown4, A4, -, Fv4, V4, -, -, -, st4⟩ := ldcSV (s := s) (vm0 := s.vm) X3 hx hZ hown (ow hw 19 rfl) hwS e3 hS0 (Nat.le_trans (Nat.le_trans (Nat.le_trans (Nat.zero_le _) E1.1) Kp2.1) E3.1) (by rw [hh, ← hn0]; exact N2) hK0 (⟨#[], by simpa using hI0, fun q hq => by simp at hq⟩ : IB Z s.vm []) (by simp) hcn hcw (vs := [(.int (120 : Int32))]) (z := (1 : Int32)) ⟨by decide, by decide⟩ (by decide) rfl (g := (mkF m 40 #[.val (.int ja), .val (.int jb), .val (.int kk), .val (.int (0 : Int32)), .val (.ref b1), .unset, .unset, .unset] [(.int (0 : Int32)), (.ref b3), (.ref b3)])) rfl (hb hby at_40) (n := 4) (by decide) (by decide) (by decide) (by decide)
  have f6 : Fld Z h4 b3 "com/example/sortition/sortition/Element" "index" "I" (.int (0 : Int32)) := (F3_5.ext E4)
  have f7 : Exa Z h4 b3 "com/example/sortition/sortition/Element" := (A3.ext E4)
  have f8 : Fld Z h4 b3 "com/example/sortition/sortition/Element" "id" "Ljava/lang/String;" .null := (F3_6.ext E4)
  have f9 : Fld Z h4 b3 "com/example/sortition/sortition/Element" "value" "D" (.double 0) := (F3_7.ext E4)
  obtain ⟨_, _, ⟨T5, L5, k5, n5⟩, -, X5, hSq5, hgq5, ⟨Lc5, hQ5, l5, y5, z5⟩, st5⟩ := X4.specialBackS hx (y := (⟨"com/example/sortition/sortition/Element", "<init>", "(ILjava/lang/String;D)V"⟩ : MethodName)) rfl hown4 (mvT hZ4 (ow hw 27 rfl)) (mvT hZ4 (ow hw 28 rfl)) (mvT hZ4 (ow hw 29 rfl)) (by decide) (backOfS (W := 1) (rmEI l Z a0 hw [] b3 (0 : Int32) a4 4607182418800017408 b4 kc4 [(.int (120 : Int32))] (.int (0 : Int32)) .null (.double 0) h4 n0 (Nat.le_trans (Nat.le_trans (Nat.le_trans (Nat.le_trans Z0 E1.1) Kp2.1) E3.1) E4.1) hwS A4 Fv4 V4 (by first | assumption | decide) (by decide +kernel) (by decide +kernel) own_nn1 f6 f7 (Nat.le_trans (Nat.le_trans (Nat.le_trans Z0 E1.1) Kp2.1) (Nat.le_of_eq g3.symm)) f8 f9) hZ4 (ow hw 29 rfl) (ow hw 18 rfl) (by decide) (by decide)) (g := (mkF m 43 #[.val (.int ja), .val (.int jb), .val (.int kk), .val (.int (0 : Int32)), .val (.ref b1), .unset, .unset, .unset] [(.double 4607182418800017408), (.ref a4), (.int (0 : Int32)), (.ref b3), (.ref b3)])) rfl (by rw [hml]; rfl) (Steps.refl _) (a := b3) (argsL := [(.int (0 : Int32)), (.ref a4), (.double 4607182418800017408)]) (rest := [(.ref b3)]) (lenOf pd_9 rfl) rfl (by show 2 * 0 + _ ≤ _; exact Nat.le_of_eq rfl) (hb hby at_43) (fun _ _ => ⟨rfl, e4, (by decide : 4 + 2 ≤ _), (by decide : 12 + 12 ≤ _)⟩)
  dsimp only [Pt.U, Pt.locs, Pt.cells, Pt.slots] at X5 l5 y5 z5 st5 hQ5 hSq5 hgq5
  subst l5 y5 z5
  obtain ⟨X5, hS5, hZ5, hown5⟩ := rebS (s := s) (vm0 := T4.vm) hS4 (by rw [e4]; exact hk4) X5 hSq5 hgq5 hZ4 hown4
  obtain ⟨rfl, Nq5, Kp5, Fq5_0, Fq5_1, Fq5_2⟩ := hQ5
  have N5 := Fr.app N2 Nq5
  obtain ⟨T10, h10, X10, e10, E10, A10, D10, -, st10⟩ := newO X5 hx hZ5 hown5 (ow hw 49 rfl) (ow hw 50 rfl) (ow hw 51 rfl) rfl (g := (mkF m 48 #[.val (.int ja), .val (.int jb), .val (.int kk), .val (.int (0 : Int32)), .val (.ref b1), .val (.ref b3), .unset, .unset] [])) rfl (hb hby at_48) (by decide) (by decide)
  obtain ⟨b10, g10⟩ : ∃ z, z = T5.heap.size := ⟨_, rfl⟩
  rw [← g10] at A10 D10 st10
  have F10_12 : Fld Z h10 b10 "java/util/AbstractList" "modCount" "I" (.int (0 : Int32)) := D10 (Or.inl (ow hw 69 rfl)) (ty := .int) (by decide)
  have F10_13 : Fld Z h10 b10 "java/util/ArrayList" "elementData" "[Ljava/lang/Object;" .null := D10 (Or.inl (ow hw 72 rfl)) (ty := (.array (.object "java/lang/Object"))) (by decide)
  have F10_14 : Fld Z h10 b10 "java/util/ArrayList" "size" "I" (.int (0 : Int32)) := D10 (Or.inl (ow hw 81 rfl)) (ty := .int) (by decide)
  have f12 : Sta Z h10 "java/util/ArrayList" "DEFAULTCAPACITY_EMPTY_ELEMENTDATA" "[Ljava/lang/Object;" (.ref de) := ((Sta_keep (((Sta_keep (S_DE.ext E1) Kp2 (nsS A1.nostat ns0)).ext E3).ext E4) Kp5 (nsS f7.nostat ns0)).ext E10)
  obtain ⟨_, _, ⟨T11, L11, k11, n11⟩, -, X11, ⟨Lc11, hQ11, l11, y11, z11⟩, st11⟩ := X10.specialBack hx (y := (⟨"java/util/ArrayList", "<init>", "()V"⟩ : MethodName)) rfl hown5 (mvT hZ5 (ow hw 52 rfl)) (mvT hZ5 (ow hw 53 rfl)) (mvT hZ5 (ow hw 54 rfl)) (by decide) (backOf (W := 1) (rmAL l Z a0 hw [] b10 de (.int (0 : Int32)) .null h10 n0 (Nat.le_trans (Nat.le_trans (Nat.le_trans (Nat.le_trans (Nat.le_trans (Nat.le_trans Z0 E1.1) Kp2.1) E3.1) E4.1) Kp5.1) E10.1) A10 F10_12 F10_13 f12 F10_14 (Nat.le_trans (Nat.le_trans (Nat.le_trans (Nat.le_trans (Nat.le_trans (Nat.le_trans Z0 E1.1) Kp2.1) E3.1) E4.1) Kp5.1) (Nat.le_of_eq g10.symm))) hZ5 (ow hw 54 rfl) (ow hw 51 rfl) (by decide) (by decide)) (g := (mkF m 52 #[.val (.int ja), .val (.int jb), .val (.int kk), .val (.int (0 : Int32)), .val (.ref b1), .val (.ref b3), .unset, .unset] [(.ref b10), (.ref b10)])) rfl (by rw [hml]; rfl) (Steps.refl _) (a := b10) (argsL := []) (rest := [(.ref b10)]) (lenOf pd_0 rfl) rfl (by show 2 * 0 + _ ≤ _; exact Nat.le_of_eq rfl) (hb hby at_52) (fun _ _ => ⟨rfl, e10, (by decide : 7 + 0 ≤ _), (by decide : 27 + 0 ≤ _)⟩)
  dsimp only [Pt.U, Pt.locs, Pt.cells, Pt.slots] at X11 l11 y11 z11 st11 hQ11
  subst l11 y11 z11
  obtain ⟨rfl, Nq11, Kp11, Fq11_0, Fq11_1, Fq11_2, Fq11_3⟩ := hQ11
  have N11 := Fr.app N5 Nq11
  have f14 : Fld Z T11.heap b1 "com/example/sortition/sortition/Slots" "size" "I" (.int kk) := (((((Fq2_1.ext E3).ext E4).keep Kp5 (ninS (Nat.ne_of_lt (Nat.lt_of_lt_of_le Fq2_0.lt (Nat.le_of_eq g3.symm))) nin0)).ext E10).keep Kp11 (ninS (Nat.ne_of_lt (Nat.lt_of_lt_of_le (((Fq2_0.ext E3).ext E4).keep Kp5).lt (Nat.le_of_eq g10.symm))) nin0))
  have f15 : Exa Z T11.heap b1 "com/example/sortition/sortition/Slots" := (((((Fq2_0.ext E3).ext E4).keep Kp5).ext E10).keep Kp11)
  obtain ⟨cq13, kq13, q13a, q13b, q13c⟩ := isOf hZ5 rfl f15
  obtain ⟨_, _, ⟨T13, L13, k13, n13⟩, -, X13, ⟨Lc13, hQ13, l13, y13, z13⟩, st13⟩ := X11.virtualBack hx (y := (⟨"com/example/sortition/sortition/Slots", "allows", "(Ljava/util/List;)Z"⟩ : MethodName)) (z := (⟨"com/example/sortition/sortition/Slots", "allows", "(Ljava/util/List;)Z"⟩ : MethodName)) hown5 (mvT hZ5 (ow hw 104 rfl)) (mvT hZ5 (ow hw 105 rfl)) (notFace_of_selects (args := #[]) (mvT hZ5 (ow hw 107 rfl))) (mvT hZ5 (ow hw 107 rfl)) (mvT hZ5 (ow hw 106 rfl)) (by decide) (backOf (W := 0) (rmAW_t l Z a0 hw [] b1 b10 (0 : Int32) kk T11.heap n0 (Nat.le_trans (Nat.le_trans (Nat.le_trans (Nat.le_trans (Nat.le_trans (Nat.le_trans (Nat.le_trans Z0 E1.1) Kp2.1) E3.1) E4.1) Kp5.1) E10.1) Kp11.1) Fq11_0 Fq11_3 f14 hrd) hZ5 (ow hw 108 rfl) (ow hw 2 rfl) (by decide) (by decide)) q13a q13c (g := (mkF m 164 #[.val (.int ja), .val (.int jb), .val (.int kk), .val (.int (0 : Int32)), .val (.ref b1), .val (.ref b3), .val (.ref b10), .val (.int (0 : Int32))] [(.ref b10), (.ref b1)])) rfl (by rw [hml]; rfl) (Steps.refl _) (argsL := [(.ref b10)]) (rest := []) (lenOf pd_10 rfl) rfl (by show 2 * 0 + _ ≤ _; exact Nat.le_of_eq rfl) (hb hby at_164) (fun _ _ => ⟨rfl, rfl, (by decide : 7 + 0 ≤ _), (by decide : 27 + 0 ≤ _)⟩)
  dsimp only [Pt.U, Pt.locs, Pt.cells, Pt.slots] at X13 l13 y13 z13 st13 hQ13
  subst l13 y13 z13
  obtain ⟨rfl, Nq13, e13⟩ := hQ13
  have N13 := Fr.app N11 Nq13
  obtain ⟨fs, hr, hrun, hended, hRW⟩ := X13.leaveW (s := s) hS5 (by rw [e13]; exact (Nat.le_trans (Nat.le_trans (Nat.le_refl _) E10.1) Kp11.1)) (v := some (.int (1 : Int32))) (fun h => by rw [Bd.returns] at h; cases h)
  refine ⟨_, _, pre0 _ ?_, hrun, hended, _, _, rfl, ?_, hRW.1, hRW.2.1, hRW.2.2.1, hRW.2.2.2.mono (by decide) (by decide)⟩
  · show Steps p.tables e below (s₁.setTop (mkF m 0 #[.val (.int ja), .val (.int jb), .unset, .unset, .unset, .unset, .unset, .unset] [])) _
    refine stp _ ?_
    show Steps p.tables e below (s₁.setTop (mkF m 20 #[.val (.int ja), .val (.int jb), .val (.int kk), .unset, .unset, .unset, .unset, .unset] [])) _
    refine XS.iloadN X0.here hx rfl (hb hby at_20) rfl ?_
    show Steps p.tables e below (s₁.setTop (mkF m 21 #[.val (.int ja), .val (.int jb), .val (.int kk), .unset, .unset, .unset, .unset, .unset] [(.int jb)])) _
    refine XS.bipush X0.here hx rfl (hb hby at_21) ?_
    show Steps p.tables e below (s₁.setTop (mkF m 23 #[.val (.int ja), .val (.int jb), .val (.int kk), .unset, .unset, .unset, .unset, .unset] [(.int (7 : Int32)), (.int jb)])) _
    refine XS.iand X0.here hx rfl (hb hby at_23) rfl ?_
    show Steps p.tables e below (s₁.setTop (mkF m 24 #[.val (.int ja), .val (.int jb), .val (.int kk), .unset, .unset, .unset, .unset, .unset] [(.int (jb &&& (7 : Int32)))])) _
    rw [hn]
    show Steps p.tables e below (s₁.setTop (mkF m 24 #[.val (.int ja), .val (.int jb), .val (.int kk), .unset, .unset, .unset, .unset, .unset] [(.int (0 : Int32))])) _
    refine XS.istoreN X0.here hx rfl (hb hby at_24) rfl (l' := #[.val (.int ja), .val (.int jb), .val (.int kk), .val (.int (0 : Int32)), .unset, .unset, .unset, .unset]) rfl ?_
    show Steps p.tables e below (s₁.setTop (mkF m 25 #[.val (.int ja), .val (.int jb), .val (.int kk), .val (.int (0 : Int32)), .unset, .unset, .unset, .unset] [])) _
    refine st1 _ ?_
    show Steps p.tables e below (T1.setTop (mkF m 28 #[.val (.int ja), .val (.int jb), .val (.int kk), .val (.int (0 : Int32)), .unset, .unset, .unset, .unset] [(.ref b1)])) _
    refine XS.dup X1.here hx rfl (hb hby at_28) rfl rfl ?_
    show Steps p.tables e below (T1.setTop (mkF m 29 #[.val (.int ja), .val (.int jb), .val (.int kk), .val (.int (0 : Int32)), .unset, .unset, .unset, .unset] [(.ref b1), (.ref b1)])) _
    refine XS.iloadN X1.here hx rfl (hb hby at_29) rfl ?_
    show Steps p.tables e below (T1.setTop (mkF m 30 #[.val (.int ja), .val (.int jb), .val (.int kk), .val (.int (0 : Int32)), .unset, .unset, .unset, .unset] [(.int kk), (.ref b1), (.ref b1)])) _
    refine st2.trans ?_
    show Steps p.tables e below (T2.setTop (mkF m 33 #[.val (.int ja), .val (.int jb), .val (.int kk), .val (.int (0 : Int32)), .unset, .unset, .unset, .unset] [(.ref b1)])) _
    refine XS.astore X2.here hx rfl (hb hby at_33) rfl rfl (l' := #[.val (.int ja), .val (.int jb), .val (.int kk), .val (.int (0 : Int32)), .val (.ref b1), .unset, .unset, .unset]) rfl ?_
    show Steps p.tables e below (T2.setTop (mkF m 35 #[.val (.int ja), .val (.int jb), .val (.int kk), .val (.int (0 : Int32)), .val (.ref b1), .unset, .unset, .unset] [])) _
    refine st3 _ ?_
    show Steps p.tables e below (T3.setTop (mkF m 38 #[.val (.int ja), .val (.int jb), .val (.int kk), .val (.int (0 : Int32)), .val (.ref b1), .unset, .unset, .unset] [(.ref b3)])) _
    refine XS.dup X3.here hx rfl (hb hby at_38) rfl rfl ?_
    show Steps p.tables e below (T3.setTop (mkF m 39 #[.val (.int ja), .val (.int jb), .val (.int kk), .val (.int (0 : Int32)), .val (.ref b1), .unset, .unset, .unset] [(.ref b3), (.ref b3)])) _
    refine XS.iconst X3.here hx rfl (hb hby at_39) ?_
    show Steps p.tables e below (T3.setTop (mkF m 40 #[.val (.int ja), .val (.int jb), .val (.int kk), .val (.int (0 : Int32)), .val (.ref b1), .unset, .unset, .unset] [(.int (0 : Int32)), (.ref b3), (.ref b3)])) _
    refine st4 _ ?_
    show Steps p.tables e below (T4.setTop (mkF m 42 #[.val (.int ja), .val (.int jb), .val (.int kk), .val (.int (0 : Int32)), .val (.ref b1), .unset, .unset, .unset] [(.ref a4), (.int (0 : Int32)), (.ref b3), (.ref b3)])) _
    refine XS.dconst1 X4.here hx rfl (hb hby at_42) (v := 4607182418800017408) rfl ?_
    show Steps p.tables e below (T4.setTop (mkF m 43 #[.val (.int ja), .val (.int jb), .val (.int kk), .val (.int (0 : Int32)), .val (.ref b1), .unset, .unset, .unset] [(.double 4607182418800017408), (.ref a4), (.int (0 : Int32)), (.ref b3), (.ref b3)])) _
    refine st5.trans ?_
    show Steps p.tables e below (T5.setTop (mkF m 46 #[.val (.int ja), .val (.int jb), .val (.int kk), .val (.int (0 : Int32)), .val (.ref b1), .unset, .unset, .unset] [(.ref b3)])) _
    refine XS.astore X5.here hx rfl (hb hby at_46) rfl rfl (l' := #[.val (.int ja), .val (.int jb), .val (.int kk), .val (.int (0 : Int32)), .val (.ref b1), .val (.ref b3), .unset, .unset]) rfl ?_
    show Steps p.tables e below (T5.setTop (mkF m 48 #[.val (.int ja), .val (.int jb), .val (.int kk), .val (.int (0 : Int32)), .val (.ref b1), .val (.ref b3), .unset, .unset] [])) _
    refine st10 _ ?_
    show Steps p.tables e below (T10.setTop (mkF m 51 #[.val (.int ja), .val (.int jb), .val (.int kk), .val (.int (0 : Int32)), .val (.ref b1), .val (.ref b3), .unset, .unset] [(.ref b10)])) _
    refine XS.dup X10.here hx rfl (hb hby at_51) rfl rfl ?_
    show Steps p.tables e below (T10.setTop (mkF m 52 #[.val (.int ja), .val (.int jb), .val (.int kk), .val (.int (0 : Int32)), .val (.ref b1), .val (.ref b3), .unset, .unset] [(.ref b10), (.ref b10)])) _
    refine st11.trans ?_
    show Steps p.tables e below (T11.setTop (mkF m 55 #[.val (.int ja), .val (.int jb), .val (.int kk), .val (.int (0 : Int32)), .val (.ref b1), .val (.ref b3), .unset, .unset] [(.ref b10)])) _
    refine XS.astore X11.here hx rfl (hb hby at_55) rfl rfl (l' := #[.val (.int ja), .val (.int jb), .val (.int kk), .val (.int (0 : Int32)), .val (.ref b1), .val (.ref b3), .val (.ref b10), .unset]) rfl ?_
    show Steps p.tables e below (T11.setTop (mkF m 57 #[.val (.int ja), .val (.int jb), .val (.int kk), .val (.int (0 : Int32)), .val (.ref b1), .val (.ref b3), .val (.ref b10), .unset] [])) _
    refine XS.iloadN X11.here hx rfl (hb hby at_57) rfl ?_
    show Steps p.tables e below (T11.setTop (mkF m 58 #[.val (.int ja), .val (.int jb), .val (.int kk), .val (.int (0 : Int32)), .val (.ref b1), .val (.ref b3), .val (.ref b10), .unset] [(.int (0 : Int32))])) _
    refine XS.ifYes X11.here hx rfl (pc0 := 58) (pc' := 69) rfl (hb hby at_58) rfl ((if0 _ _).trans (flt (by decide : ¬ ((0 : Int32) < (0 : Int32)))).2.2.2) (by decide) (by decide) ?_
    show Steps p.tables e below (T11.setTop (mkF m 69 #[.val (.int ja), .val (.int jb), .val (.int kk), .val (.int (0 : Int32)), .val (.ref b1), .val (.ref b3), .val (.ref b10), .unset] [])) _
    refine XS.iloadN X11.here hx rfl (hb hby at_69) rfl ?_
    show Steps p.tables e below (T11.setTop (mkF m 70 #[.val (.int ja), .val (.int jb), .val (.int kk), .val (.int (0 : Int32)), .val (.ref b1), .val (.ref b3), .val (.ref b10), .unset] [(.int (0 : Int32))])) _
    refine XS.iconst X11.here hx rfl (hb hby at_70) ?_
    show Steps p.tables e below (T11.setTop (mkF m 71 #[.val (.int ja), .val (.int jb), .val (.int kk), .val (.int (0 : Int32)), .val (.ref b1), .val (.ref b3), .val (.ref b10), .unset] [(.int (1 : Int32)), (.int (0 : Int32))])) _
    refine XS.icmpYes X11.here hx rfl (pc0 := 71) (pc' := 82) rfl (hb hby at_71) rfl (flt (by decide : ¬ ((1 : Int32) < (0 : Int32)))).2.2.2 (by decide) (by decide) ?_
    show Steps p.tables e below (T11.setTop (mkF m 82 #[.val (.int ja), .val (.int jb), .val (.int kk), .val (.int (0 : Int32)), .val (.ref b1), .val (.ref b3), .val (.ref b10), .unset] [])) _
    refine XS.iloadN X11.here hx rfl (hb hby at_82) rfl ?_
    show Steps p.tables e below (T11.setTop (mkF m 83 #[.val (.int ja), .val (.int jb), .val (.int kk), .val (.int (0 : Int32)), .val (.ref b1), .val (.ref b3), .val (.ref b10), .unset] [(.int (0 : Int32))])) _
    refine XS.iconst X11.here hx rfl (hb hby at_83) ?_
    show Steps p.tables e below (T11.setTop (mkF m 84 #[.val (.int ja), .val (.int jb), .val (.int kk), .val (.int (0 : Int32)), .val (.ref b1), .val (.ref b3), .val (.ref b10), .unset] [(.int (2 : Int32)), (.int (0 : Int32))])) _
    refine XS.icmpYes X11.here hx rfl (pc0 := 84) (pc' := 95) rfl (hb hby at_84) rfl (flt (by decide : ¬ ((2 : Int32) < (0 : Int32)))).2.2.2 (by decide) (by decide) ?_
    show Steps p.tables e below (T11.setTop (mkF m 95 #[.val (.int ja), .val (.int jb), .val (.int kk), .val (.int (0 : Int32)), .val (.ref b1), .val (.ref b3), .val (.ref b10), .unset] [])) _
    refine XS.iloadN X11.here hx rfl (hb hby at_95) rfl ?_
    show Steps p.tables e below (T11.setTop (mkF m 96 #[.val (.int ja), .val (.int jb), .val (.int kk), .val (.int (0 : Int32)), .val (.ref b1), .val (.ref b3), .val (.ref b10), .unset] [(.int (0 : Int32))])) _
    refine XS.iconst X11.here hx rfl (hb hby at_96) ?_
    show Steps p.tables e below (T11.setTop (mkF m 97 #[.val (.int ja), .val (.int jb), .val (.int kk), .val (.int (0 : Int32)), .val (.ref b1), .val (.ref b3), .val (.ref b10), .unset] [(.int (3 : Int32)), (.int (0 : Int32))])) _
    refine XS.icmpYes X11.here hx rfl (pc0 := 97) (pc' := 108) rfl (hb hby at_97) rfl (flt (by decide : ¬ ((3 : Int32) < (0 : Int32)))).2.2.2 (by decide) (by decide) ?_
    show Steps p.tables e below (T11.setTop (mkF m 108 #[.val (.int ja), .val (.int jb), .val (.int kk), .val (.int (0 : Int32)), .val (.ref b1), .val (.ref b3), .val (.ref b10), .unset] [])) _
    refine XS.iloadN X11.here hx rfl (hb hby at_108) rfl ?_
    show Steps p.tables e below (T11.setTop (mkF m 109 #[.val (.int ja), .val (.int jb), .val (.int kk), .val (.int (0 : Int32)), .val (.ref b1), .val (.ref b3), .val (.ref b10), .unset] [(.int (0 : Int32))])) _
    refine XS.iconst X11.here hx rfl (hb hby at_109) ?_
    show Steps p.tables e below (T11.setTop (mkF m 110 #[.val (.int ja), .val (.int jb), .val (.int kk), .val (.int (0 : Int32)), .val (.ref b1), .val (.ref b3), .val (.ref b10), .unset] [(.int (4 : Int32)), (.int (0 : Int32))])) _
    refine XS.icmpYes X11.here hx rfl (pc0 := 110) (pc' := 121) rfl (hb hby at_110) rfl (flt (by decide : ¬ ((4 : Int32) < (0 : Int32)))).2.2.2 (by decide) (by decide) ?_
    show Steps p.tables e below (T11.setTop (mkF m 121 #[.val (.int ja), .val (.int jb), .val (.int kk), .val (.int (0 : Int32)), .val (.ref b1), .val (.ref b3), .val (.ref b10), .unset] [])) _
    refine XS.iloadN X11.here hx rfl (hb hby at_121) rfl ?_
    show Steps p.tables e below (T11.setTop (mkF m 122 #[.val (.int ja), .val (.int jb), .val (.int kk), .val (.int (0 : Int32)), .val (.ref b1), .val (.ref b3), .val (.ref b10), .unset] [(.int (0 : Int32))])) _
    refine XS.iconst X11.here hx rfl (hb hby at_122) ?_
    show Steps p.tables e below (T11.setTop (mkF m 123 #[.val (.int ja), .val (.int jb), .val (.int kk), .val (.int (0 : Int32)), .val (.ref b1), .val (.ref b3), .val (.ref b10), .unset] [(.int (5 : Int32)), (.int (0 : Int32))])) _
    refine XS.icmpYes X11.here hx rfl (pc0 := 123) (pc' := 134) rfl (hb hby at_123) rfl (flt (by decide : ¬ ((5 : Int32) < (0 : Int32)))).2.2.2 (by decide) (by decide) ?_
    show Steps p.tables e below (T11.setTop (mkF m 134 #[.val (.int ja), .val (.int jb), .val (.int kk), .val (.int (0 : Int32)), .val (.ref b1), .val (.ref b3), .val (.ref b10), .unset] [])) _
    refine XS.iloadN X11.here hx rfl (hb hby at_134) rfl ?_
    show Steps p.tables e below (T11.setTop (mkF m 135 #[.val (.int ja), .val (.int jb), .val (.int kk), .val (.int (0 : Int32)), .val (.ref b1), .val (.ref b3), .val (.ref b10), .unset] [(.int (0 : Int32))])) _
    refine XS.bipush X11.here hx rfl (hb hby at_135) ?_
    show Steps p.tables e below (T11.setTop (mkF m 137 #[.val (.int ja), .val (.int jb), .val (.int kk), .val (.int (0 : Int32)), .val (.ref b1), .val (.ref b3), .val (.ref b10), .unset] [(.int (6 : Int32)), (.int (0 : Int32))])) _
    refine XS.icmpYes X11.here hx rfl (pc0 := 137) (pc' := 148) rfl (hb hby at_137) rfl (flt (by decide : ¬ ((6 : Int32) < (0 : Int32)))).2.2.2 (by decide) (by decide) ?_
    show Steps p.tables e below (T11.setTop (mkF m 148 #[.val (.int ja), .val (.int jb), .val (.int kk), .val (.int (0 : Int32)), .val (.ref b1), .val (.ref b3), .val (.ref b10), .unset] [])) _
    refine XS.iloadN X11.here hx rfl (hb hby at_148) rfl ?_
    show Steps p.tables e below (T11.setTop (mkF m 149 #[.val (.int ja), .val (.int jb), .val (.int kk), .val (.int (0 : Int32)), .val (.ref b1), .val (.ref b3), .val (.ref b10), .unset] [(.int (0 : Int32))])) _
    refine XS.iloadN X11.here hx rfl (hb hby at_149) rfl ?_
    show Steps p.tables e below (T11.setTop (mkF m 150 #[.val (.int ja), .val (.int jb), .val (.int kk), .val (.int (0 : Int32)), .val (.ref b1), .val (.ref b3), .val (.ref b10), .unset] [(.int kk), (.int (0 : Int32))])) _
    refine XS.icmpYes X11.here hx rfl (pc0 := 150) (pc' := 157) rfl (hb hby at_150) rfl (tlt hrd).2.2.1 (by decide) (by decide) ?_
    show Steps p.tables e below (T11.setTop (mkF m 157 #[.val (.int ja), .val (.int jb), .val (.int kk), .val (.int (0 : Int32)), .val (.ref b1), .val (.ref b3), .val (.ref b10), .unset] [])) _
    refine XS.iconst X11.here hx rfl (hb hby at_157) ?_
    show Steps p.tables e below (T11.setTop (mkF m 158 #[.val (.int ja), .val (.int jb), .val (.int kk), .val (.int (0 : Int32)), .val (.ref b1), .val (.ref b3), .val (.ref b10), .unset] [(.int (0 : Int32))])) _
    refine XS.istore X11.here hx rfl (hb hby at_158) rfl (l' := #[.val (.int ja), .val (.int jb), .val (.int kk), .val (.int (0 : Int32)), .val (.ref b1), .val (.ref b3), .val (.ref b10), .val (.int (0 : Int32))]) rfl ?_
    show Steps p.tables e below (T11.setTop (mkF m 160 #[.val (.int ja), .val (.int jb), .val (.int kk), .val (.int (0 : Int32)), .val (.ref b1), .val (.ref b3), .val (.ref b10), .val (.int (0 : Int32))] [])) _
    refine XS.aload X11.here hx rfl (hb hby at_160) rfl rfl ?_
    show Steps p.tables e below (T11.setTop (mkF m 162 #[.val (.int ja), .val (.int jb), .val (.int kk), .val (.int (0 : Int32)), .val (.ref b1), .val (.ref b3), .val (.ref b10), .val (.int (0 : Int32))] [(.ref b1)])) _
    refine XS.aload X11.here hx rfl (hb hby at_162) rfl rfl ?_
    show Steps p.tables e below (T11.setTop (mkF m 164 #[.val (.int ja), .val (.int jb), .val (.int kk), .val (.int (0 : Int32)), .val (.ref b1), .val (.ref b3), .val (.ref b10), .val (.int (0 : Int32))] [(.ref b10), (.ref b1)])) _
    refine st13.trans ?_
    show Steps p.tables e below (T13.setTop (mkF m 167 #[.val (.int ja), .val (.int jb), .val (.int kk), .val (.int (0 : Int32)), .val (.ref b1), .val (.ref b3), .val (.ref b10), .val (.int (0 : Int32))] [(.int (0 : Int32))])) _
    refine XS.iload X13.here hx rfl (hb hby at_167) rfl ?_
    show Steps p.tables e below (T13.setTop (mkF m 169 #[.val (.int ja), .val (.int jb), .val (.int kk), .val (.int (0 : Int32)), .val (.ref b1), .val (.ref b3), .val (.ref b10), .val (.int (0 : Int32))] [(.int (0 : Int32)), (.int (0 : Int32))])) _
    refine XS.icmpNo X13.here hx rfl (hb hby at_169) rfl (teq (rfl : (0 : Int32) = (0 : Int32))).2 ?_
    show Steps p.tables e below (T13.setTop (mkF m 172 #[.val (.int ja), .val (.int jb), .val (.int kk), .val (.int (0 : Int32)), .val (.ref b1), .val (.ref b3), .val (.ref b10), .val (.int (0 : Int32))] [])) _
    refine XS.iconst X13.here hx rfl (hb hby at_172) ?_
    show Steps p.tables e below (T13.setTop (mkF m 173 #[.val (.int ja), .val (.int jb), .val (.int kk), .val (.int (0 : Int32)), .val (.ref b1), .val (.ref b3), .val (.ref b10), .val (.int (0 : Int32))] [(.int (1 : Int32))])) _
    refine XS.goto X13.here hx rfl (pc0 := 173) (pc' := 177) rfl (hb hby at_173) (by decide) (by decide) ?_
    show Steps p.tables e below (T13.setTop (mkF m 177 #[.val (.int ja), .val (.int jb), .val (.int kk), .val (.int (0 : Int32)), .val (.ref b1), .val (.ref b3), .val (.ref b10), .val (.int (0 : Int32))] [(.int (1 : Int32))])) _
    exact retN X13 hx (t := .boolean) Bd.returns (by simp) (hb hby at_177) hr
  · show Q_rm0_0t Z ja jb kk de kd h0 n0 _ T13.heap _
    rw [e13]
    exact ⟨rfl, N13⟩
def Q_rm0_0f (Z : State) (ja : Int32) (jb : Int32) (kk : Int32) (de : Addr) (kd : ClassId) (h0 : Heap) (n0 : Nat) (v : Option Value) (h : Heap) (L : List Loc) : Prop := v = some (.int (1 : Int32)) ∧ Fr n0 L
theorem ef_rm0_0f (m : MethodId) (ja : Int32) (jb : Int32) : entryFrame m #[(.int ja), (.int jb)] maxLocals = mkF m 0 #[.val (.int ja), .val (.int jb), .unset, .unset, .unset, .unset, .unset, .unset] [] := by first | (simp [entryFrame, mkF, argsToLocals, Value.category, maxLocals]; done) | rfl
set_option maxRecDepth 65536 in
set_option maxHeartbeats 40000000 in
theorem rm0_0f (l : Launch) (Z : State) (a0 : Array Value) (hw : ∀ d ∈ tables_1, d.before a0 Z = true) (ws : List Jvm.Cond) (ja : Int32) (jb : Int32) (kk : Int32) (de : Addr) (kd : ClassId) (h0 : Heap) (n0 : Nat) (Z0 : n0 ≤ h0.size) (hwS : ∀ a ∈ Bundle.stringAtoms, a.before a0 Z = true) (hn0 : n0 = h0.size) (hcn : Jvm.Lit.constHeld Z "com/example/sortition/sortition/SlotsAllowsPinLaw" 15) (hcw : Jvm.Lit.compactW.before a0 Z = true) (S_DE : Sta Z h0 "java/util/ArrayList" "DEFAULTCAPACITY_EMPTY_ELEMENTDATA" "[Ljava/lang/Object;" (.ref de)) (V_de : Arv Z h0 de kd (.object "java/lang/Object") (0 : Int32) [] .null) (hkk : (own_k ja jb) = kk) (gkk : ¬ (kk < (0 : Int32))) (hn : (jb &&& (7 : Int32)) = (0 : Int32)) (hrd : ¬ (kk < (0 : Int32))) :
    MetFree l x (head1 (Jvm.Cond.code x code maxLocals ret :: ws) room_1) (fun a U => a = #[(.int ja), (.int jb)] ∧ Z.Warmed39 U.vm ∧ U.heap = h0 ∧ U.vm.interned = Z.vm.interned ∧ (∀ (b : Addr) (cl : Cell), Z.heap[b]? = some cl → U.heap[b]? = some cl)) (fun _ _ _ _ _ => True) (fun _ U o U' => ∃ v L, o = .returned v ∧ Q_rm0_0f Z ja jb kk de kd h0 n0 v U'.heap L ∧ ReturnedEndW U o U' L room_1.cells room_1.slots) := by
  refine MetFree.of_bodySF (plainFor_of_name pn_8) hisR ?_
  intro p e s m args below meth c s₁ Bd hml0 hP hK
  obtain ⟨rfl, hZ, hh, hI0, hK0⟩ := hP
  have hx := Bd.exec
  have hby := Bd.bytes
  have hml : c.maxLocals = 8 := hml0
  have hown : s.vm.findClass "com/example/sortition/sortition/SlotsAllowsPinLaw" = some m.cls := findClass_of_methodNamed Bd.named
  have hnm := (name_of_methodNamed Bd.named Bd.method).1
  have X0 : Stand p l e room_1 s m #[(.int ja), (.int jb)] below meth c s₁ [] 0 0 := Stand.of_body Bd
  have e0 : s₁.heap = h0 := by rw [← hh, Bd.state]; rfl
  have N0 := Fr.nil n0
  have hS0 := (State.WarmedH.refl s).since 0
  have pre0 : ∀ t, Steps p.tables e below (s₁.setTop (mkF m 0 #[.val (.int ja), .val (.int jb), .unset, .unset, .unset, .unset, .unset, .unset] [])) t → Steps p.tables e below (s₁.setTop (entryFrame m #[(.int ja), (.int jb)] maxLocals)) t := fun t k => castTop (ef_rm0_0f m ja jb) k
  have stp := own_pre ja jb X0 hx hZ hw hby hown
  rw [hkk] at stp
  obtain ⟨T1, h1, X1, e1, E1, A1, D1, -, st1⟩ := newO X0 hx hZ hown (ow hw 0 rfl) (ow hw 1 rfl) (ow hw 2 rfl) e0 (g := (mkF m 25 #[.val (.int ja), .val (.int jb), .val (.int kk), .val (.int (0 : Int32)), .unset, .unset, .unset, .unset] [])) rfl (hb hby at_25) (by decide) (by decide)
  obtain ⟨b1, g1⟩ : ∃ z, z = h0.size := ⟨_, rfl⟩
  rw [← g1] at A1 D1 st1
  have F1_3 : Fld Z h1 b1 "com/example/sortition/sortition/Slots" "size" "I" (.int (0 : Int32)) := D1 (Or.inr (ow hw 15 rfl)) (ty := .int) (by decide)
  obtain ⟨_, _, ⟨T2, L2, k2, n2⟩, -, X2, ⟨Lc2, hQ2, l2, y2, z2⟩, st2⟩ := X1.specialBack hx (y := (⟨"com/example/sortition/sortition/Slots", "<init>", "(I)V"⟩ : MethodName)) rfl hown (mvT hZ (ow hw 3 rfl)) (mvT hZ (ow hw 4 rfl)) (mvT hZ (ow hw 5 rfl)) (by decide) (backOf (W := 1) (rmSl l Z a0 hw [] b1 kk (.int (0 : Int32)) h1 n0 (Nat.le_trans Z0 E1.1) hrd F1_3 A1 (Nat.le_trans Z0 (Nat.le_of_eq g1.symm))) hZ (ow hw 5 rfl) (ow hw 2 rfl) (by decide) (by decide)) (g := (mkF m 30 #[.val (.int ja), .val (.int jb), .val (.int kk), .val (.int (0 : Int32)), .unset, .unset, .unset, .unset] [(.int kk), (.ref b1), (.ref b1)])) rfl (by rw [hml]; rfl) (Steps.refl _) (a := b1) (argsL := [(.int kk)]) (rest := [(.ref b1)]) (lenOf pd_8 rfl) rfl (by show 2 * 0 + _ ≤ _; exact Nat.le_of_eq rfl) (hb hby at_30) (fun _ _ => ⟨rfl, e1, (by decide : 1 + 0 ≤ _), (by decide : 1 + 0 ≤ _)⟩)
  dsimp only [Pt.U, Pt.locs, Pt.cells, Pt.slots] at X2 l2 y2 z2 st2 hQ2
  subst l2 y2 z2
  obtain ⟨rfl, Nq2, Kp2, Fq2_0, Fq2_1⟩ := hQ2
  have N2 := Fr.app N0 Nq2
  obtain ⟨T3, h3, X3, e3, E3, A3, D3, -, st3⟩ := newO X2 hx hZ hown (ow hw 16 rfl) (ow hw 17 rfl) (ow hw 18 rfl) rfl (g := (mkF m 35 #[.val (.int ja), .val (.int jb), .val (.int kk), .val (.int (0 : Int32)), .val (.ref b1), .unset, .unset, .unset] [])) rfl (hb hby at_35) (by decide) (by decide)
  obtain ⟨b3, g3⟩ : ∃ z, z = T2.heap.size := ⟨_, rfl⟩
  rw [← g3] at A3 D3 st3
  have F3_5 : Fld Z h3 b3 "com/example/sortition/sortition/Element" "index" "I" (.int (0 : Int32)) := D3 (Or.inr (ow hw 44 rfl)) (ty := .int) (by decide)
  have F3_6 : Fld Z h3 b3 "com/example/sortition/sortition/Element" "id" "Ljava/lang/String;" .null := D3 (Or.inr (ow hw 46 rfl)) (ty := (.object "java/lang/String")) (by decide)
  have F3_7 : Fld Z h3 b3 "com/example/sortition/sortition/Element" "value" "D" (.double 0) := D3 (Or.inr (ow hw 48 rfl)) (ty := .double) (by decide)
  obtain ⟨a4, T4, h4, k4, b4, kc4, X4, e4, E4, hS4, hk4, hZ4, hown4, A4, -, Fv4, V4, -, -, -, st4⟩ := ldcSV (s := s) (vm0 := s.vm) X3 hx hZ hown (ow hw 19 rfl) hwS e3 hS0 (Nat.le_trans (Nat.le_trans (Nat.le_trans (Nat.zero_le _) E1.1) Kp2.1) E3.1) (by rw [hh, ← hn0]; exact N2) hK0 (⟨#[], by simpa using hI0, fun q hq => by simp at hq⟩ : IB Z s.vm []) (by simp) hcn hcw (vs := [(.int (120 : Int32))]) (z := (1 : Int32)) ⟨by decide, by decide⟩ (by decide) rfl (g := (mkF m 40 #[.val (.int ja), .val (.int jb), .val (.int kk), .val (.int (0 : Int32)), .val (.ref b1), .unset, .unset, .unset] [(.int (0 : Int32)), (.ref b3), (.ref b3)])) rfl (hb hby at_40) (n := 4) (by decide) (by decide) (by decide) (by decide)
  have f6 : Fld Z h4 b3 "com/example/sortition/sortition/Element" "index" "I" (.int (0 : Int32)) := (F3_5.ext E4)
  have f7 : Exa Z h4 b3 "com/example/sortition/sortition/Element" := (A3.ext E4)
  have f8 : Fld Z h4 b3 "com/example/sortition/sortition/Element" "id" "Ljava/lang/String;" .null := (F3_6.ext E4)
  have f9 : Fld Z h4 b3 "com/example/sortition/sortition/Element" "value" "D" (.double 0) := (F3_7.ext E4)
  obtain ⟨_, _, ⟨T5, L5, k5, n5⟩, -, X5, hSq5, hgq5, ⟨Lc5, hQ5, l5, y5, z5⟩, st5⟩ := X4.specialBackS hx (y := (⟨"com/example/sortition/sortition/Element", "<init>", "(ILjava/lang/String;D)V"⟩ : MethodName)) rfl hown4 (mvT hZ4 (ow hw 27 rfl)) (mvT hZ4 (ow hw 28 rfl)) (mvT hZ4 (ow hw 29 rfl)) (by decide) (backOfS (W := 1) (rmEI l Z a0 hw [] b3 (0 : Int32) a4 4607182418800017408 b4 kc4 [(.int (120 : Int32))] (.int (0 : Int32)) .null (.double 0) h4 n0 (Nat.le_trans (Nat.le_trans (Nat.le_trans (Nat.le_trans Z0 E1.1) Kp2.1) E3.1) E4.1) hwS A4 Fv4 V4 (by first | assumption | decide) (by decide +kernel) (by decide +kernel) own_nn1 f6 f7 (Nat.le_trans (Nat.le_trans (Nat.le_trans Z0 E1.1) Kp2.1) (Nat.le_of_eq g3.symm)) f8 f9) hZ4 (ow hw 29 rfl) (ow hw 18 rfl) (by decide) (by decide)) (g := (mkF m 43 #[.val (.int ja), .val (.int jb), .val (.int kk), .val (.int (0 : Int32)), .val (.ref b1), .unset, .unset, .unset] [(.double 4607182418800017408), (.ref a4), (.int (0 : Int32)), (.ref b3), (.ref b3)])) rfl (by rw [hml]; rfl) (Steps.refl _) (a := b3) (argsL := [(.int (0 : Int32)), (.ref a4), (.double 4607182418800017408)]) (rest := [(.ref b3)]) (lenOf pd_9 rfl) rfl (by show 2 * 0 + _ ≤ _; exact Nat.le_of_eq rfl) (hb hby at_43) (fun _ _ => ⟨rfl, e4, (by decide : 4 + 2 ≤ _), (by decide : 12 + 12 ≤ _)⟩)
  dsimp only [Pt.U, Pt.locs, Pt.cells, Pt.slots] at X5 l5 y5 z5 st5 hQ5 hSq5 hgq5
  subst l5 y5 z5
  obtain ⟨X5, hS5, hZ5, hown5⟩ := rebS (s := s) (vm0 := T4.vm) hS4 (by rw [e4]; exact hk4) X5 hSq5 hgq5 hZ4 hown4
  obtain ⟨rfl, Nq5, Kp5, Fq5_0, Fq5_1, Fq5_2⟩ := hQ5
  have N5 := Fr.app N2 Nq5
  obtain ⟨T10, h10, X10, e10, E10, A10, D10, -, st10⟩ := newO X5 hx hZ5 hown5 (ow hw 49 rfl) (ow hw 50 rfl) (ow hw 51 rfl) rfl (g := (mkF m 48 #[.val (.int ja), .val (.int jb), .val (.int kk), .val (.int (0 : Int32)), .val (.ref b1), .val (.ref b3), .unset, .unset] [])) rfl (hb hby at_48) (by decide) (by decide)
  obtain ⟨b10, g10⟩ : ∃ z, z = T5.heap.size := ⟨_, rfl⟩
  rw [← g10] at A10 D10 st10
  have F10_12 : Fld Z h10 b10 "java/util/AbstractList" "modCount" "I" (.int (0 : Int32)) := D10 (Or.inl (ow hw 69 rfl)) (ty := .int) (by decide)
  have F10_13 : Fld Z h10 b10 "java/util/ArrayList" "elementData" "[Ljava/lang/Object;" .null := D10 (Or.inl (ow hw 72 rfl)) (ty := (.array (.object "java/lang/Object"))) (by decide)
  have F10_14 : Fld Z h10 b10 "java/util/ArrayList" "size" "I" (.int (0 : Int32)) := D10 (Or.inl (ow hw 81 rfl)) (ty := .int) (by decide)
  have f12 : Sta Z h10 "java/util/ArrayList" "DEFAULTCAPACITY_EMPTY_ELEMENTDATA" "[Ljava/lang/Object;" (.ref de) := ((Sta_keep (((Sta_keep (S_DE.ext E1) Kp2 (nsS A1.nostat ns0)).ext E3).ext E4) Kp5 (nsS f7.nostat ns0)).ext E10)
  obtain ⟨_, _, ⟨T11, L11, k11, n11⟩, -, X11, ⟨Lc11, hQ11, l11, y11, z11⟩, st11⟩ := X10.specialBack hx (y := (⟨"java/util/ArrayList", "<init>", "()V"⟩ : MethodName)) rfl hown5 (mvT hZ5 (ow hw 52 rfl)) (mvT hZ5 (ow hw 53 rfl)) (mvT hZ5 (ow hw 54 rfl)) (by decide) (backOf (W := 1) (rmAL l Z a0 hw [] b10 de (.int (0 : Int32)) .null h10 n0 (Nat.le_trans (Nat.le_trans (Nat.le_trans (Nat.le_trans (Nat.le_trans (Nat.le_trans Z0 E1.1) Kp2.1) E3.1) E4.1) Kp5.1) E10.1) A10 F10_12 F10_13 f12 F10_14 (Nat.le_trans (Nat.le_trans (Nat.le_trans (Nat.le_trans (Nat.le_trans (Nat.le_trans Z0 E1.1) Kp2.1) E3.1) E4.1) Kp5.1) (Nat.le_of_eq g10.symm))) hZ5 (ow hw 54 rfl) (ow hw 51 rfl) (by decide) (by decide)) (g := (mkF m 52 #[.val (.int ja), .val (.int jb), .val (.int kk), .val (.int (0 : Int32)), .val (.ref b1), .val (.ref b3), .unset, .unset] [(.ref b10), (.ref b10)])) rfl (by rw [hml]; rfl) (Steps.refl _) (a := b10) (argsL := []) (rest := [(.ref b10)]) (lenOf pd_0 rfl) rfl (by show 2 * 0 + _ ≤ _; exact Nat.le_of_eq rfl) (hb hby at_52) (fun _ _ => ⟨rfl, e10, (by decide : 7 + 0 ≤ _), (by decide : 27 + 0 ≤ _)⟩)
  dsimp only [Pt.U, Pt.locs, Pt.cells, Pt.slots] at X11 l11 y11 z11 st11 hQ11
  subst l11 y11 z11
  obtain ⟨rfl, Nq11, Kp11, Fq11_0, Fq11_1, Fq11_2, Fq11_3⟩ := hQ11
  have N11 := Fr.app N5 Nq11
  have f14 : Fld Z T11.heap b1 "com/example/sortition/sortition/Slots" "size" "I" (.int kk) := (((((Fq2_1.ext E3).ext E4).keep Kp5 (ninS (Nat.ne_of_lt (Nat.lt_of_lt_of_le Fq2_0.lt (Nat.le_of_eq g3.symm))) nin0)).ext E10).keep Kp11 (ninS (Nat.ne_of_lt (Nat.lt_of_lt_of_le (((Fq2_0.ext E3).ext E4).keep Kp5).lt (Nat.le_of_eq g10.symm))) nin0))
  have f15 : Exa Z T11.heap b1 "com/example/sortition/sortition/Slots" := (((((Fq2_0.ext E3).ext E4).keep Kp5).ext E10).keep Kp11)
  obtain ⟨cq13, kq13, q13a, q13b, q13c⟩ := isOf hZ5 rfl f15
  obtain ⟨_, _, ⟨T13, L13, k13, n13⟩, -, X13, ⟨Lc13, hQ13, l13, y13, z13⟩, st13⟩ := X11.virtualBack hx (y := (⟨"com/example/sortition/sortition/Slots", "allows", "(Ljava/util/List;)Z"⟩ : MethodName)) (z := (⟨"com/example/sortition/sortition/Slots", "allows", "(Ljava/util/List;)Z"⟩ : MethodName)) hown5 (mvT hZ5 (ow hw 104 rfl)) (mvT hZ5 (ow hw 105 rfl)) (notFace_of_selects (args := #[]) (mvT hZ5 (ow hw 107 rfl))) (mvT hZ5 (ow hw 107 rfl)) (mvT hZ5 (ow hw 106 rfl)) (by decide) (backOf (W := 0) (rmAW_f l Z a0 hw [] b1 b10 (0 : Int32) kk T11.heap n0 (Nat.le_trans (Nat.le_trans (Nat.le_trans (Nat.le_trans (Nat.le_trans (Nat.le_trans (Nat.le_trans Z0 E1.1) Kp2.1) E3.1) E4.1) Kp5.1) E10.1) Kp11.1) Fq11_0 Fq11_3 f14 hrd) hZ5 (ow hw 108 rfl) (ow hw 2 rfl) (by decide) (by decide)) q13a q13c (g := (mkF m 164 #[.val (.int ja), .val (.int jb), .val (.int kk), .val (.int (0 : Int32)), .val (.ref b1), .val (.ref b3), .val (.ref b10), .val (.int (1 : Int32))] [(.ref b10), (.ref b1)])) rfl (by rw [hml]; rfl) (Steps.refl _) (argsL := [(.ref b10)]) (rest := []) (lenOf pd_10 rfl) rfl (by show 2 * 0 + _ ≤ _; exact Nat.le_of_eq rfl) (hb hby at_164) (fun _ _ => ⟨rfl, rfl, (by decide : 7 + 0 ≤ _), (by decide : 27 + 0 ≤ _)⟩)
  dsimp only [Pt.U, Pt.locs, Pt.cells, Pt.slots] at X13 l13 y13 z13 st13 hQ13
  subst l13 y13 z13
  obtain ⟨rfl, Nq13, e13⟩ := hQ13
  have N13 := Fr.app N11 Nq13
  obtain ⟨fs, hr, hrun, hended, hRW⟩ := X13.leaveW (s := s) hS5 (by rw [e13]; exact (Nat.le_trans (Nat.le_trans (Nat.le_refl _) E10.1) Kp11.1)) (v := some (.int (1 : Int32))) (fun h => by rw [Bd.returns] at h; cases h)
  refine ⟨_, _, pre0 _ ?_, hrun, hended, _, _, rfl, ?_, hRW.1, hRW.2.1, hRW.2.2.1, hRW.2.2.2.mono (by decide) (by decide)⟩
  · show Steps p.tables e below (s₁.setTop (mkF m 0 #[.val (.int ja), .val (.int jb), .unset, .unset, .unset, .unset, .unset, .unset] [])) _
    refine stp _ ?_
    show Steps p.tables e below (s₁.setTop (mkF m 20 #[.val (.int ja), .val (.int jb), .val (.int kk), .unset, .unset, .unset, .unset, .unset] [])) _
    refine XS.iloadN X0.here hx rfl (hb hby at_20) rfl ?_
    show Steps p.tables e below (s₁.setTop (mkF m 21 #[.val (.int ja), .val (.int jb), .val (.int kk), .unset, .unset, .unset, .unset, .unset] [(.int jb)])) _
    refine XS.bipush X0.here hx rfl (hb hby at_21) ?_
    show Steps p.tables e below (s₁.setTop (mkF m 23 #[.val (.int ja), .val (.int jb), .val (.int kk), .unset, .unset, .unset, .unset, .unset] [(.int (7 : Int32)), (.int jb)])) _
    refine XS.iand X0.here hx rfl (hb hby at_23) rfl ?_
    show Steps p.tables e below (s₁.setTop (mkF m 24 #[.val (.int ja), .val (.int jb), .val (.int kk), .unset, .unset, .unset, .unset, .unset] [(.int (jb &&& (7 : Int32)))])) _
    rw [hn]
    show Steps p.tables e below (s₁.setTop (mkF m 24 #[.val (.int ja), .val (.int jb), .val (.int kk), .unset, .unset, .unset, .unset, .unset] [(.int (0 : Int32))])) _
    refine XS.istoreN X0.here hx rfl (hb hby at_24) rfl (l' := #[.val (.int ja), .val (.int jb), .val (.int kk), .val (.int (0 : Int32)), .unset, .unset, .unset, .unset]) rfl ?_
    show Steps p.tables e below (s₁.setTop (mkF m 25 #[.val (.int ja), .val (.int jb), .val (.int kk), .val (.int (0 : Int32)), .unset, .unset, .unset, .unset] [])) _
    refine st1 _ ?_
    show Steps p.tables e below (T1.setTop (mkF m 28 #[.val (.int ja), .val (.int jb), .val (.int kk), .val (.int (0 : Int32)), .unset, .unset, .unset, .unset] [(.ref b1)])) _
    refine XS.dup X1.here hx rfl (hb hby at_28) rfl rfl ?_
    show Steps p.tables e below (T1.setTop (mkF m 29 #[.val (.int ja), .val (.int jb), .val (.int kk), .val (.int (0 : Int32)), .unset, .unset, .unset, .unset] [(.ref b1), (.ref b1)])) _
    refine XS.iloadN X1.here hx rfl (hb hby at_29) rfl ?_
    show Steps p.tables e below (T1.setTop (mkF m 30 #[.val (.int ja), .val (.int jb), .val (.int kk), .val (.int (0 : Int32)), .unset, .unset, .unset, .unset] [(.int kk), (.ref b1), (.ref b1)])) _
    refine st2.trans ?_
    show Steps p.tables e below (T2.setTop (mkF m 33 #[.val (.int ja), .val (.int jb), .val (.int kk), .val (.int (0 : Int32)), .unset, .unset, .unset, .unset] [(.ref b1)])) _
    refine XS.astore X2.here hx rfl (hb hby at_33) rfl rfl (l' := #[.val (.int ja), .val (.int jb), .val (.int kk), .val (.int (0 : Int32)), .val (.ref b1), .unset, .unset, .unset]) rfl ?_
    show Steps p.tables e below (T2.setTop (mkF m 35 #[.val (.int ja), .val (.int jb), .val (.int kk), .val (.int (0 : Int32)), .val (.ref b1), .unset, .unset, .unset] [])) _
    refine st3 _ ?_
    show Steps p.tables e below (T3.setTop (mkF m 38 #[.val (.int ja), .val (.int jb), .val (.int kk), .val (.int (0 : Int32)), .val (.ref b1), .unset, .unset, .unset] [(.ref b3)])) _
    refine XS.dup X3.here hx rfl (hb hby at_38) rfl rfl ?_
    show Steps p.tables e below (T3.setTop (mkF m 39 #[.val (.int ja), .val (.int jb), .val (.int kk), .val (.int (0 : Int32)), .val (.ref b1), .unset, .unset, .unset] [(.ref b3), (.ref b3)])) _
    refine XS.iconst X3.here hx rfl (hb hby at_39) ?_
    show Steps p.tables e below (T3.setTop (mkF m 40 #[.val (.int ja), .val (.int jb), .val (.int kk), .val (.int (0 : Int32)), .val (.ref b1), .unset, .unset, .unset] [(.int (0 : Int32)), (.ref b3), (.ref b3)])) _
    refine st4 _ ?_
    show Steps p.tables e below (T4.setTop (mkF m 42 #[.val (.int ja), .val (.int jb), .val (.int kk), .val (.int (0 : Int32)), .val (.ref b1), .unset, .unset, .unset] [(.ref a4), (.int (0 : Int32)), (.ref b3), (.ref b3)])) _
    refine XS.dconst1 X4.here hx rfl (hb hby at_42) (v := 4607182418800017408) rfl ?_
    show Steps p.tables e below (T4.setTop (mkF m 43 #[.val (.int ja), .val (.int jb), .val (.int kk), .val (.int (0 : Int32)), .val (.ref b1), .unset, .unset, .unset] [(.double 4607182418800017408), (.ref a4), (.int (0 : Int32)), (.ref b3), (.ref b3)])) _
    refine st5.trans ?_
    show Steps p.tables e below (T5.setTop (mkF m 46 #[.val (.int ja), .val (.int jb), .val (.int kk), .val (.int (0 : Int32)), .val (.ref b1), .unset, .unset, .unset] [(.ref b3)])) _
    refine XS.astore X5.here hx rfl (hb hby at_46) rfl rfl (l' := #[.val (.int ja), .val (.int jb), .val (.int kk), .val (.int (0 : Int32)), .val (.ref b1), .val (.ref b3), .unset, .unset]) rfl ?_
    show Steps p.tables e below (T5.setTop (mkF m 48 #[.val (.int ja), .val (.int jb), .val (.int kk), .val (.int (0 : Int32)), .val (.ref b1), .val (.ref b3), .unset, .unset] [])) _
    refine st10 _ ?_
    show Steps p.tables e below (T10.setTop (mkF m 51 #[.val (.int ja), .val (.int jb), .val (.int kk), .val (.int (0 : Int32)), .val (.ref b1), .val (.ref b3), .unset, .unset] [(.ref b10)])) _
    refine XS.dup X10.here hx rfl (hb hby at_51) rfl rfl ?_
    show Steps p.tables e below (T10.setTop (mkF m 52 #[.val (.int ja), .val (.int jb), .val (.int kk), .val (.int (0 : Int32)), .val (.ref b1), .val (.ref b3), .unset, .unset] [(.ref b10), (.ref b10)])) _
    refine st11.trans ?_
    show Steps p.tables e below (T11.setTop (mkF m 55 #[.val (.int ja), .val (.int jb), .val (.int kk), .val (.int (0 : Int32)), .val (.ref b1), .val (.ref b3), .unset, .unset] [(.ref b10)])) _
    refine XS.astore X11.here hx rfl (hb hby at_55) rfl rfl (l' := #[.val (.int ja), .val (.int jb), .val (.int kk), .val (.int (0 : Int32)), .val (.ref b1), .val (.ref b3), .val (.ref b10), .unset]) rfl ?_
    show Steps p.tables e below (T11.setTop (mkF m 57 #[.val (.int ja), .val (.int jb), .val (.int kk), .val (.int (0 : Int32)), .val (.ref b1), .val (.ref b3), .val (.ref b10), .unset] [])) _
    refine XS.iloadN X11.here hx rfl (hb hby at_57) rfl ?_
    show Steps p.tables e below (T11.setTop (mkF m 58 #[.val (.int ja), .val (.int jb), .val (.int kk), .val (.int (0 : Int32)), .val (.ref b1), .val (.ref b3), .val (.ref b10), .unset] [(.int (0 : Int32))])) _
    refine XS.ifYes X11.here hx rfl (pc0 := 58) (pc' := 69) rfl (hb hby at_58) rfl ((if0 _ _).trans (flt (by decide : ¬ ((0 : Int32) < (0 : Int32)))).2.2.2) (by decide) (by decide) ?_
    show Steps p.tables e below (T11.setTop (mkF m 69 #[.val (.int ja), .val (.int jb), .val (.int kk), .val (.int (0 : Int32)), .val (.ref b1), .val (.ref b3), .val (.ref b10), .unset] [])) _
    refine XS.iloadN X11.here hx rfl (hb hby at_69) rfl ?_
    show Steps p.tables e below (T11.setTop (mkF m 70 #[.val (.int ja), .val (.int jb), .val (.int kk), .val (.int (0 : Int32)), .val (.ref b1), .val (.ref b3), .val (.ref b10), .unset] [(.int (0 : Int32))])) _
    refine XS.iconst X11.here hx rfl (hb hby at_70) ?_
    show Steps p.tables e below (T11.setTop (mkF m 71 #[.val (.int ja), .val (.int jb), .val (.int kk), .val (.int (0 : Int32)), .val (.ref b1), .val (.ref b3), .val (.ref b10), .unset] [(.int (1 : Int32)), (.int (0 : Int32))])) _
    refine XS.icmpYes X11.here hx rfl (pc0 := 71) (pc' := 82) rfl (hb hby at_71) rfl (flt (by decide : ¬ ((1 : Int32) < (0 : Int32)))).2.2.2 (by decide) (by decide) ?_
    show Steps p.tables e below (T11.setTop (mkF m 82 #[.val (.int ja), .val (.int jb), .val (.int kk), .val (.int (0 : Int32)), .val (.ref b1), .val (.ref b3), .val (.ref b10), .unset] [])) _
    refine XS.iloadN X11.here hx rfl (hb hby at_82) rfl ?_
    show Steps p.tables e below (T11.setTop (mkF m 83 #[.val (.int ja), .val (.int jb), .val (.int kk), .val (.int (0 : Int32)), .val (.ref b1), .val (.ref b3), .val (.ref b10), .unset] [(.int (0 : Int32))])) _
    refine XS.iconst X11.here hx rfl (hb hby at_83) ?_
    show Steps p.tables e below (T11.setTop (mkF m 84 #[.val (.int ja), .val (.int jb), .val (.int kk), .val (.int (0 : Int32)), .val (.ref b1), .val (.ref b3), .val (.ref b10), .unset] [(.int (2 : Int32)), (.int (0 : Int32))])) _
    refine XS.icmpYes X11.here hx rfl (pc0 := 84) (pc' := 95) rfl (hb hby at_84) rfl (flt (by decide : ¬ ((2 : Int32) < (0 : Int32)))).2.2.2 (by decide) (by decide) ?_
    show Steps p.tables e below (T11.setTop (mkF m 95 #[.val (.int ja), .val (.int jb), .val (.int kk), .val (.int (0 : Int32)), .val (.ref b1), .val (.ref b3), .val (.ref b10), .unset] [])) _
    refine XS.iloadN X11.here hx rfl (hb hby at_95) rfl ?_
    show Steps p.tables e below (T11.setTop (mkF m 96 #[.val (.int ja), .val (.int jb), .val (.int kk), .val (.int (0 : Int32)), .val (.ref b1), .val (.ref b3), .val (.ref b10), .unset] [(.int (0 : Int32))])) _
    refine XS.iconst X11.here hx rfl (hb hby at_96) ?_
    show Steps p.tables e below (T11.setTop (mkF m 97 #[.val (.int ja), .val (.int jb), .val (.int kk), .val (.int (0 : Int32)), .val (.ref b1), .val (.ref b3), .val (.ref b10), .unset] [(.int (3 : Int32)), (.int (0 : Int32))])) _
    refine XS.icmpYes X11.here hx rfl (pc0 := 97) (pc' := 108) rfl (hb hby at_97) rfl (flt (by decide : ¬ ((3 : Int32) < (0 : Int32)))).2.2.2 (by decide) (by decide) ?_
    show Steps p.tables e below (T11.setTop (mkF m 108 #[.val (.int ja), .val (.int jb), .val (.int kk), .val (.int (0 : Int32)), .val (.ref b1), .val (.ref b3), .val (.ref b10), .unset] [])) _
    refine XS.iloadN X11.here hx rfl (hb hby at_108) rfl ?_
    show Steps p.tables e below (T11.setTop (mkF m 109 #[.val (.int ja), .val (.int jb), .val (.int kk), .val (.int (0 : Int32)), .val (.ref b1), .val (.ref b3), .val (.ref b10), .unset] [(.int (0 : Int32))])) _
    refine XS.iconst X11.here hx rfl (hb hby at_109) ?_
    show Steps p.tables e below (T11.setTop (mkF m 110 #[.val (.int ja), .val (.int jb), .val (.int kk), .val (.int (0 : Int32)), .val (.ref b1), .val (.ref b3), .val (.ref b10), .unset] [(.int (4 : Int32)), (.int (0 : Int32))])) _
    refine XS.icmpYes X11.here hx rfl (pc0 := 110) (pc' := 121) rfl (hb hby at_110) rfl (flt (by decide : ¬ ((4 : Int32) < (0 : Int32)))).2.2.2 (by decide) (by decide) ?_
    show Steps p.tables e below (T11.setTop (mkF m 121 #[.val (.int ja), .val (.int jb), .val (.int kk), .val (.int (0 : Int32)), .val (.ref b1), .val (.ref b3), .val (.ref b10), .unset] [])) _
    refine XS.iloadN X11.here hx rfl (hb hby at_121) rfl ?_
    show Steps p.tables e below (T11.setTop (mkF m 122 #[.val (.int ja), .val (.int jb), .val (.int kk), .val (.int (0 : Int32)), .val (.ref b1), .val (.ref b3), .val (.ref b10), .unset] [(.int (0 : Int32))])) _
    refine XS.iconst X11.here hx rfl (hb hby at_122) ?_
    show Steps p.tables e below (T11.setTop (mkF m 123 #[.val (.int ja), .val (.int jb), .val (.int kk), .val (.int (0 : Int32)), .val (.ref b1), .val (.ref b3), .val (.ref b10), .unset] [(.int (5 : Int32)), (.int (0 : Int32))])) _
    refine XS.icmpYes X11.here hx rfl (pc0 := 123) (pc' := 134) rfl (hb hby at_123) rfl (flt (by decide : ¬ ((5 : Int32) < (0 : Int32)))).2.2.2 (by decide) (by decide) ?_
    show Steps p.tables e below (T11.setTop (mkF m 134 #[.val (.int ja), .val (.int jb), .val (.int kk), .val (.int (0 : Int32)), .val (.ref b1), .val (.ref b3), .val (.ref b10), .unset] [])) _
    refine XS.iloadN X11.here hx rfl (hb hby at_134) rfl ?_
    show Steps p.tables e below (T11.setTop (mkF m 135 #[.val (.int ja), .val (.int jb), .val (.int kk), .val (.int (0 : Int32)), .val (.ref b1), .val (.ref b3), .val (.ref b10), .unset] [(.int (0 : Int32))])) _
    refine XS.bipush X11.here hx rfl (hb hby at_135) ?_
    show Steps p.tables e below (T11.setTop (mkF m 137 #[.val (.int ja), .val (.int jb), .val (.int kk), .val (.int (0 : Int32)), .val (.ref b1), .val (.ref b3), .val (.ref b10), .unset] [(.int (6 : Int32)), (.int (0 : Int32))])) _
    refine XS.icmpYes X11.here hx rfl (pc0 := 137) (pc' := 148) rfl (hb hby at_137) rfl (flt (by decide : ¬ ((6 : Int32) < (0 : Int32)))).2.2.2 (by decide) (by decide) ?_
    show Steps p.tables e below (T11.setTop (mkF m 148 #[.val (.int ja), .val (.int jb), .val (.int kk), .val (.int (0 : Int32)), .val (.ref b1), .val (.ref b3), .val (.ref b10), .unset] [])) _
    refine XS.iloadN X11.here hx rfl (hb hby at_148) rfl ?_
    show Steps p.tables e below (T11.setTop (mkF m 149 #[.val (.int ja), .val (.int jb), .val (.int kk), .val (.int (0 : Int32)), .val (.ref b1), .val (.ref b3), .val (.ref b10), .unset] [(.int (0 : Int32))])) _
    refine XS.iloadN X11.here hx rfl (hb hby at_149) rfl ?_
    show Steps p.tables e below (T11.setTop (mkF m 150 #[.val (.int ja), .val (.int jb), .val (.int kk), .val (.int (0 : Int32)), .val (.ref b1), .val (.ref b3), .val (.ref b10), .unset] [(.int kk), (.int (0 : Int32))])) _
    refine XS.icmpNo X11.here hx rfl (hb hby at_150) rfl (flt hrd).2.2.1 ?_
    show Steps p.tables e below (T11.setTop (mkF m 153 #[.val (.int ja), .val (.int jb), .val (.int kk), .val (.int (0 : Int32)), .val (.ref b1), .val (.ref b3), .val (.ref b10), .unset] [])) _
    refine XS.iconst X11.here hx rfl (hb hby at_153) ?_
    show Steps p.tables e below (T11.setTop (mkF m 154 #[.val (.int ja), .val (.int jb), .val (.int kk), .val (.int (0 : Int32)), .val (.ref b1), .val (.ref b3), .val (.ref b10), .unset] [(.int (1 : Int32))])) _
    refine XS.goto X11.here hx rfl (pc0 := 154) (pc' := 158) rfl (hb hby at_154) (by decide) (by decide) ?_
    show Steps p.tables e below (T11.setTop (mkF m 158 #[.val (.int ja), .val (.int jb), .val (.int kk), .val (.int (0 : Int32)), .val (.ref b1), .val (.ref b3), .val (.ref b10), .unset] [(.int (1 : Int32))])) _
    refine XS.istore X11.here hx rfl (hb hby at_158) rfl (l' := #[.val (.int ja), .val (.int jb), .val (.int kk), .val (.int (0 : Int32)), .val (.ref b1), .val (.ref b3), .val (.ref b10), .val (.int (1 : Int32))]) rfl ?_
    show Steps p.tables e below (T11.setTop (mkF m 160 #[.val (.int ja), .val (.int jb), .val (.int kk), .val (.int (0 : Int32)), .val (.ref b1), .val (.ref b3), .val (.ref b10), .val (.int (1 : Int32))] [])) _
    refine XS.aload X11.here hx rfl (hb hby at_160) rfl rfl ?_
    show Steps p.tables e below (T11.setTop (mkF m 162 #[.val (.int ja), .val (.int jb), .val (.int kk), .val (.int (0 : Int32)), .val (.ref b1), .val (.ref b3), .val (.ref b10), .val (.int (1 : Int32))] [(.ref b1)])) _
    refine XS.aload X11.here hx rfl (hb hby at_162) rfl rfl ?_
    show Steps p.tables e below (T11.setTop (mkF m 164 #[.val (.int ja), .val (.int jb), .val (.int kk), .val (.int (0 : Int32)), .val (.ref b1), .val (.ref b3), .val (.ref b10), .val (.int (1 : Int32))] [(.ref b10), (.ref b1)])) _
    refine st13.trans ?_
    show Steps p.tables e below (T13.setTop (mkF m 167 #[.val (.int ja), .val (.int jb), .val (.int kk), .val (.int (0 : Int32)), .val (.ref b1), .val (.ref b3), .val (.ref b10), .val (.int (1 : Int32))] [(.int (1 : Int32))])) _
    refine XS.iload X13.here hx rfl (hb hby at_167) rfl ?_
    show Steps p.tables e below (T13.setTop (mkF m 169 #[.val (.int ja), .val (.int jb), .val (.int kk), .val (.int (0 : Int32)), .val (.ref b1), .val (.ref b3), .val (.ref b10), .val (.int (1 : Int32))] [(.int (1 : Int32)), (.int (1 : Int32))])) _
    refine XS.icmpNo X13.here hx rfl (hb hby at_169) rfl (teq (rfl : (1 : Int32) = (1 : Int32))).2 ?_
    show Steps p.tables e below (T13.setTop (mkF m 172 #[.val (.int ja), .val (.int jb), .val (.int kk), .val (.int (0 : Int32)), .val (.ref b1), .val (.ref b3), .val (.ref b10), .val (.int (1 : Int32))] [])) _
    refine XS.iconst X13.here hx rfl (hb hby at_172) ?_
    show Steps p.tables e below (T13.setTop (mkF m 173 #[.val (.int ja), .val (.int jb), .val (.int kk), .val (.int (0 : Int32)), .val (.ref b1), .val (.ref b3), .val (.ref b10), .val (.int (1 : Int32))] [(.int (1 : Int32))])) _
    refine XS.goto X13.here hx rfl (pc0 := 173) (pc' := 177) rfl (hb hby at_173) (by decide) (by decide) ?_
    show Steps p.tables e below (T13.setTop (mkF m 177 #[.val (.int ja), .val (.int jb), .val (.int kk), .val (.int (0 : Int32)), .val (.ref b1), .val (.ref b3), .val (.ref b10), .val (.int (1 : Int32))] [(.int (1 : Int32))])) _
    exact retN X13 hx (t := .boolean) Bd.returns (by simp) (hb hby at_177) hr
  · show Q_rm0_0f Z ja jb kk de kd h0 n0 _ T13.heap _
    rw [e13]
    exact ⟨rfl, N13⟩
theorem pd_11 : parseMethodDescriptor "(Ljava/lang/Object;)Z" = some ⟨[(.object "java/lang/Object")], some .boolean⟩ := by decide +kernel
def Q_rm0_1t (Z : State) (ja : Int32) (jb : Int32) (kk : Int32) (de : Addr) (kd : ClassId) (h0 : Heap) (n0 : Nat) (v : Option Value) (h : Heap) (L : List Loc) : Prop := v = some (.int (1 : Int32)) ∧ Fr n0 L
theorem ef_rm0_1t (m : MethodId) (ja : Int32) (jb : Int32) : entryFrame m #[(.int ja), (.int jb)] maxLocals = mkF m 0 #[.val (.int ja), .val (.int jb), .unset, .unset, .unset, .unset, .unset, .unset] [] := by first | (simp [entryFrame, mkF, argsToLocals, Value.category, maxLocals]; done) | rfl
set_option maxRecDepth 65536 in
set_option maxHeartbeats 40000000 in
theorem rm0_1t (l : Launch) (Z : State) (a0 : Array Value) (hw : ∀ d ∈ tables_1, d.before a0 Z = true) (ws : List Jvm.Cond) (ja : Int32) (jb : Int32) (kk : Int32) (de : Addr) (kd : ClassId) (h0 : Heap) (n0 : Nat) (Z0 : n0 ≤ h0.size) (hwS : ∀ a ∈ Bundle.stringAtoms, a.before a0 Z = true) (hn0 : n0 = h0.size) (hcn : Jvm.Lit.constHeld Z "com/example/sortition/sortition/SlotsAllowsPinLaw" 15) (hcw : Jvm.Lit.compactW.before a0 Z = true) (S_DE : Sta Z h0 "java/util/ArrayList" "DEFAULTCAPACITY_EMPTY_ELEMENTDATA" "[Ljava/lang/Object;" (.ref de)) (V_de : Arv Z h0 de kd (.object "java/lang/Object") (0 : Int32) [] .null) (hkk : (own_k ja jb) = kk) (gkk : ¬ (kk < (0 : Int32))) (hn : (jb &&& (7 : Int32)) = (1 : Int32)) (hrd : kk < (1 : Int32)) :
    MetFree l x (head1 (Jvm.Cond.code x code maxLocals ret :: ws) room_1) (fun a U => a = #[(.int ja), (.int jb)] ∧ Z.Warmed39 U.vm ∧ U.heap = h0 ∧ U.vm.interned = Z.vm.interned ∧ (∀ (b : Addr) (cl : Cell), Z.heap[b]? = some cl → U.heap[b]? = some cl)) (fun _ _ _ _ _ => True) (fun _ U o U' => ∃ v L, o = .returned v ∧ Q_rm0_1t Z ja jb kk de kd h0 n0 v U'.heap L ∧ ReturnedEndW U o U' L room_1.cells room_1.slots) := by
  refine MetFree.of_bodySF (plainFor_of_name pn_8) hisR ?_
  intro p e s m args below meth c s₁ Bd hml0 hP hK
  obtain ⟨rfl, hZ, hh, hI0, hK0⟩ := hP
  have hx := Bd.exec
  have hby := Bd.bytes
  have hml : c.maxLocals = 8 := hml0
  have hown : s.vm.findClass "com/example/sortition/sortition/SlotsAllowsPinLaw" = some m.cls := findClass_of_methodNamed Bd.named
  have hnm := (name_of_methodNamed Bd.named Bd.method).1
  have X0 : Stand p l e room_1 s m #[(.int ja), (.int jb)] below meth c s₁ [] 0 0 := Stand.of_body Bd
  have e0 : s₁.heap = h0 := by rw [← hh, Bd.state]; rfl
  have N0 := Fr.nil n0
  have hS0 := (State.WarmedH.refl s).since 0
  have pre0 : ∀ t, Steps p.tables e below (s₁.setTop (mkF m 0 #[.val (.int ja), .val (.int jb), .unset, .unset, .unset, .unset, .unset, .unset] [])) t → Steps p.tables e below (s₁.setTop (entryFrame m #[(.int ja), (.int jb)] maxLocals)) t := fun t k => castTop (ef_rm0_1t m ja jb) k
  have stp := own_pre ja jb X0 hx hZ hw hby hown
  rw [hkk] at stp
  obtain ⟨T1, h1, X1, e1, E1, A1, D1, -, st1⟩ := newO X0 hx hZ hown (ow hw 0 rfl) (ow hw 1 rfl) (ow hw 2 rfl) e0 (g := (mkF m 25 #[.val (.int ja), .val (.int jb), .val (.int kk), .val (.int (1 : Int32)), .unset, .unset, .unset, .unset] [])) rfl (hb hby at_25) (by decide) (by decide)
  obtain ⟨b1, g1⟩ : ∃ z, z = h0.size := ⟨_, rfl⟩
  rw [← g1] at A1 D1 st1
  have F1_3 : Fld Z h1 b1 "com/example/sortition/sortition/Slots" "size" "I" (.int (0 : Int32)) := D1 (Or.inr (ow hw 15 rfl)) (ty := .int) (by decide)
  obtain ⟨_, _, ⟨T2, L2, k2, n2⟩, -, X2, ⟨Lc2, hQ2, l2, y2, z2⟩, st2⟩ := X1.specialBack hx (y := (⟨"com/example/sortition/sortition/Slots", "<init>", "(I)V"⟩ : MethodName)) rfl hown (mvT hZ (ow hw 3 rfl)) (mvT hZ (ow hw 4 rfl)) (mvT hZ (ow hw 5 rfl)) (by decide) (backOf (W := 1) (rmSl l Z a0 hw [] b1 kk (.int (0 : Int32)) h1 n0 (Nat.le_trans Z0 E1.1) gkk F1_3 A1 (Nat.le_trans Z0 (Nat.le_of_eq g1.symm))) hZ (ow hw 5 rfl) (ow hw 2 rfl) (by decide) (by decide)) (g := (mkF m 30 #[.val (.int ja), .val (.int jb), .val (.int kk), .val (.int (1 : Int32)), .unset, .unset, .unset, .unset] [(.int kk), (.ref b1), (.ref b1)])) rfl (by rw [hml]; rfl) (Steps.refl _) (a := b1) (argsL := [(.int kk)]) (rest := [(.ref b1)]) (lenOf pd_8 rfl) rfl (by show 2 * 0 + _ ≤ _; exact Nat.le_of_eq rfl) (hb hby at_30) (fun _ _ => ⟨rfl, e1, (by decide : 1 + 0 ≤ _), (by decide : 1 + 0 ≤ _)⟩)
  dsimp only [Pt.U, Pt.locs, Pt.cells, Pt.slots] at X2 l2 y2 z2 st2 hQ2
  subst l2 y2 z2
  obtain ⟨rfl, Nq2, Kp2, Fq2_0, Fq2_1⟩ := hQ2
  have N2 := Fr.app N0 Nq2
  obtain ⟨T3, h3, X3, e3, E3, A3, D3, -, st3⟩ := newO X2 hx hZ hown (ow hw 16 rfl) (ow hw 17 rfl) (ow hw 18 rfl) rfl (g := (mkF m 35 #[.val (.int ja), .val (.int jb), .val (.int kk), .val (.int (1 : Int32)), .val (.ref b1), .unset, .unset, .unset] [])) rfl (hb hby at_35) (by decide) (by decide)
  obtain ⟨b3, g3⟩ : ∃ z, z = T2.heap.size := ⟨_, rfl⟩
  rw [← g3] at A3 D3 st3
  have F3_5 : Fld Z h3 b3 "com/example/sortition/sortition/Element" "index" "I" (.int (0 : Int32)) := D3 (Or.inr (ow hw 44 rfl)) (ty := .int) (by decide)
  have F3_6 : Fld Z h3 b3 "com/example/sortition/sortition/Element" "id" "Ljava/lang/String;" .null := D3 (Or.inr (ow hw 46 rfl)) (ty := (.object "java/lang/String")) (by decide)
  have F3_7 : Fld Z h3 b3 "com/example/sortition/sortition/Element" "value" "D" (.double 0) := D3 (Or.inr (ow hw 48 rfl)) (ty := .double) (by decide)
  obtain ⟨a4, T4, h4, k4, b4, kc4, X4, e4, E4, hS4, hk4, hZ4, hown4, A4, -, Fv4, V4, -, -, -, st4⟩ := ldcSV (s := s) (vm0 := s.vm) X3 hx hZ hown (ow hw 19 rfl) hwS e3 hS0 (Nat.le_trans (Nat.le_trans (Nat.le_trans (Nat.zero_le _) E1.1) Kp2.1) E3.1) (by rw [hh, ← hn0]; exact N2) hK0 (⟨#[], by simpa using hI0, fun q hq => by simp at hq⟩ : IB Z s.vm []) (by simp) hcn hcw (vs := [(.int (120 : Int32))]) (z := (1 : Int32)) ⟨by decide, by decide⟩ (by decide) rfl (g := (mkF m 40 #[.val (.int ja), .val (.int jb), .val (.int kk), .val (.int (1 : Int32)), .val (.ref b1), .unset, .unset, .unset] [(.int (0 : Int32)), (.ref b3), (.ref b3)])) rfl (hb hby at_40) (n := 4) (by decide) (by decide) (by decide) (by decide)
  have f6 : Fld Z h4 b3 "com/example/sortition/sortition/Element" "index" "I" (.int (0 : Int32)) := (F3_5.ext E4)
  have f7 : Exa Z h4 b3 "com/example/sortition/sortition/Element" := (A3.ext E4)
  have f8 : Fld Z h4 b3 "com/example/sortition/sortition/Element" "id" "Ljava/lang/String;" .null := (F3_6.ext E4)
  have f9 : Fld Z h4 b3 "com/example/sortition/sortition/Element" "value" "D" (.double 0) := (F3_7.ext E4)
  obtain ⟨_, _, ⟨T5, L5, k5, n5⟩, -, X5, hSq5, hgq5, ⟨Lc5, hQ5, l5, y5, z5⟩, st5⟩ := X4.specialBackS hx (y := (⟨"com/example/sortition/sortition/Element", "<init>", "(ILjava/lang/String;D)V"⟩ : MethodName)) rfl hown4 (mvT hZ4 (ow hw 27 rfl)) (mvT hZ4 (ow hw 28 rfl)) (mvT hZ4 (ow hw 29 rfl)) (by decide) (backOfS (W := 1) (rmEI l Z a0 hw [] b3 (0 : Int32) a4 4607182418800017408 b4 kc4 [(.int (120 : Int32))] (.int (0 : Int32)) .null (.double 0) h4 n0 (Nat.le_trans (Nat.le_trans (Nat.le_trans (Nat.le_trans Z0 E1.1) Kp2.1) E3.1) E4.1) hwS A4 Fv4 V4 (by first | assumption | decide) (by decide +kernel) (by decide +kernel) own_nn1 f6 f7 (Nat.le_trans (Nat.le_trans (Nat.le_trans Z0 E1.1) Kp2.1) (Nat.le_of_eq g3.symm)) f8 f9) hZ4 (ow hw 29 rfl) (ow hw 18 rfl) (by decide) (by decide)) (g := (mkF m 43 #[.val (.int ja), .val (.int jb), .val (.int kk), .val (.int (1 : Int32)), .val (.ref b1), .unset, .unset, .unset] [(.double 4607182418800017408), (.ref a4), (.int (0 : Int32)), (.ref b3), (.ref b3)])) rfl (by rw [hml]; rfl) (Steps.refl _) (a := b3) (argsL := [(.int (0 : Int32)), (.ref a4), (.double 4607182418800017408)]) (rest := [(.ref b3)]) (lenOf pd_9 rfl) rfl (by show 2 * 0 + _ ≤ _; exact Nat.le_of_eq rfl) (hb hby at_43) (fun _ _ => ⟨rfl, e4, (by decide : 4 + 2 ≤ _), (by decide : 12 + 12 ≤ _)⟩)
  dsimp only [Pt.U, Pt.locs, Pt.cells, Pt.slots] at X5 l5 y5 z5 st5 hQ5 hSq5 hgq5
  subst l5 y5 z5
  obtain ⟨X5, hS5, hZ5, hown5⟩ := rebS (s := s) (vm0 := T4.vm) hS4 (by rw [e4]; exact hk4) X5 hSq5 hgq5 hZ4 hown4
  obtain ⟨rfl, Nq5, Kp5, Fq5_0, Fq5_1, Fq5_2⟩ := hQ5
  have N5 := Fr.app N2 Nq5
  obtain ⟨T10, h10, X10, e10, E10, A10, D10, -, st10⟩ := newO X5 hx hZ5 hown5 (ow hw 49 rfl) (ow hw 50 rfl) (ow hw 51 rfl) rfl (g := (mkF m 48 #[.val (.int ja), .val (.int jb), .val (.int kk), .val (.int (1 : Int32)), .val (.ref b1), .val (.ref b3), .unset, .unset] [])) rfl (hb hby at_48) (by decide) (by decide)
  obtain ⟨b10, g10⟩ : ∃ z, z = T5.heap.size := ⟨_, rfl⟩
  rw [← g10] at A10 D10 st10
  have F10_12 : Fld Z h10 b10 "java/util/AbstractList" "modCount" "I" (.int (0 : Int32)) := D10 (Or.inl (ow hw 69 rfl)) (ty := .int) (by decide)
  have F10_13 : Fld Z h10 b10 "java/util/ArrayList" "elementData" "[Ljava/lang/Object;" .null := D10 (Or.inl (ow hw 72 rfl)) (ty := (.array (.object "java/lang/Object"))) (by decide)
  have F10_14 : Fld Z h10 b10 "java/util/ArrayList" "size" "I" (.int (0 : Int32)) := D10 (Or.inl (ow hw 81 rfl)) (ty := .int) (by decide)
  have f12 : Sta Z h10 "java/util/ArrayList" "DEFAULTCAPACITY_EMPTY_ELEMENTDATA" "[Ljava/lang/Object;" (.ref de) := ((Sta_keep (((Sta_keep (S_DE.ext E1) Kp2 (nsS A1.nostat ns0)).ext E3).ext E4) Kp5 (nsS f7.nostat ns0)).ext E10)
  obtain ⟨_, _, ⟨T11, L11, k11, n11⟩, -, X11, ⟨Lc11, hQ11, l11, y11, z11⟩, st11⟩ := X10.specialBack hx (y := (⟨"java/util/ArrayList", "<init>", "()V"⟩ : MethodName)) rfl hown5 (mvT hZ5 (ow hw 52 rfl)) (mvT hZ5 (ow hw 53 rfl)) (mvT hZ5 (ow hw 54 rfl)) (by decide) (backOf (W := 1) (rmAL l Z a0 hw [] b10 de (.int (0 : Int32)) .null h10 n0 (Nat.le_trans (Nat.le_trans (Nat.le_trans (Nat.le_trans (Nat.le_trans (Nat.le_trans Z0 E1.1) Kp2.1) E3.1) E4.1) Kp5.1) E10.1) A10 F10_12 F10_13 f12 F10_14 (Nat.le_trans (Nat.le_trans (Nat.le_trans (Nat.le_trans (Nat.le_trans (Nat.le_trans Z0 E1.1) Kp2.1) E3.1) E4.1) Kp5.1) (Nat.le_of_eq g10.symm))) hZ5 (ow hw 54 rfl) (ow hw 51 rfl) (by decide) (by decide)) (g := (mkF m 52 #[.val (.int ja), .val (.int jb), .val (.int kk), .val (.int (1 : Int32)), .val (.ref b1), .val (.ref b3), .unset, .unset] [(.ref b10), (.ref b10)])) rfl (by rw [hml]; rfl) (Steps.refl _) (a := b10) (argsL := []) (rest := [(.ref b10)]) (lenOf pd_0 rfl) rfl (by show 2 * 0 + _ ≤ _; exact Nat.le_of_eq rfl) (hb hby at_52) (fun _ _ => ⟨rfl, e10, (by decide : 7 + 0 ≤ _), (by decide : 27 + 0 ≤ _)⟩)
  dsimp only [Pt.U, Pt.locs, Pt.cells, Pt.slots] at X11 l11 y11 z11 st11 hQ11
  subst l11 y11 z11
  obtain ⟨rfl, Nq11, Kp11, Fq11_0, Fq11_1, Fq11_2, Fq11_3⟩ := hQ11
  have N11 := Fr.app N5 Nq11
  have f14 : Arv Z T11.heap de kd (.object "java/lang/Object") (0 : Int32) [] .null := (((((((V_de.ext E1).keep Kp2 (ninS (Nat.ne_of_lt (Nat.lt_of_lt_of_le V_de.lt (Nat.le_of_eq g1.symm))) nin0)).ext E3).ext E4).keep Kp5 (ninS (Nat.ne_of_lt (Nat.lt_of_lt_of_le ((V_de.ext E1).keep Kp2 (ninS (Nat.ne_of_lt (Nat.lt_of_lt_of_le V_de.lt (Nat.le_of_eq g1.symm))) nin0)).lt (Nat.le_of_eq g3.symm))) nin0)).ext E10).keep Kp11 (ninS (Nat.ne_of_lt (Nat.lt_of_lt_of_le (((((V_de.ext E1).keep Kp2 (ninS (Nat.ne_of_lt (Nat.lt_of_lt_of_le V_de.lt (Nat.le_of_eq g1.symm))) nin0)).ext E3).ext E4).keep Kp5 (ninS (Nat.ne_of_lt (Nat.lt_of_lt_of_le ((V_de.ext E1).keep Kp2 (ninS (Nat.ne_of_lt (Nat.lt_of_lt_of_le V_de.lt (Nat.le_of_eq g1.symm))) nin0)).lt (Nat.le_of_eq g3.symm))) nin0)).lt (Nat.le_of_eq g10.symm))) nin0))
  have f15 : Sta Z T11.heap "java/util/ArrayList" "DEFAULTCAPACITY_EMPTY_ELEMENTDATA" "[Ljava/lang/Object;" (.ref de) := (Sta_keep f12 Kp11 (nsS A10.nostat ns0))
  have f16 : Exa Z T11.heap b3 "com/example/sortition/sortition/Element" := ((Fq5_0.ext E10).keep Kp11)
  obtain ⟨cq13, kq13, q13a, q13b, q13c⟩ := isOf hZ5 rfl Fq11_0
  obtain ⟨_, _, ⟨T13, L13, k13, n13⟩, -, X13, ⟨Lc13, hQ13, l13, y13, z13⟩, st13⟩ := X11.virtualBack hx (y := (⟨"java/util/ArrayList", "add", "(Ljava/lang/Object;)Z"⟩ : MethodName)) (z := (⟨"java/util/ArrayList", "add", "(Ljava/lang/Object;)Z"⟩ : MethodName)) hown5 (mvT hZ5 (ow hw 73 rfl)) (mvT hZ5 (ow hw 74 rfl)) (notFace_of_selects (args := #[]) (mvT hZ5 (ow hw 76 rfl))) (mvT hZ5 (ow hw 76 rfl)) (mvT hZ5 (ow hw 75 rfl)) (by decide) (backOf (W := 0) (rmA0 l Z a0 hw [] b10 b3 de kd (0 : Int32) T11.heap n0 (Nat.le_trans (Nat.le_trans (Nat.le_trans (Nat.le_trans (Nat.le_trans (Nat.le_trans (Nat.le_trans Z0 E1.1) Kp2.1) E3.1) E4.1) Kp5.1) E10.1) Kp11.1) Fq11_1 Fq11_0 Fq11_2 Fq11_3 f14 f15 f16 (Nat.le_trans (Nat.le_trans (Nat.le_trans (Nat.le_trans (Nat.le_trans (Nat.le_trans Z0 E1.1) Kp2.1) E3.1) E4.1) Kp5.1) (Nat.le_of_eq g10.symm)) (Nat.ne_of_lt (Nat.lt_of_lt_of_le (((((V_de.ext E1).keep Kp2 (ninS (Nat.ne_of_lt (Nat.lt_of_lt_of_le V_de.lt (Nat.le_of_eq g1.symm))) nin0)).ext E3).ext E4).keep Kp5 (ninS (Nat.ne_of_lt (Nat.lt_of_lt_of_le ((V_de.ext E1).keep Kp2 (ninS (Nat.ne_of_lt (Nat.lt_of_lt_of_le V_de.lt (Nat.le_of_eq g1.symm))) nin0)).lt (Nat.le_of_eq g3.symm))) nin0)).lt (Nat.le_of_eq g10.symm)))) hZ5 (ow hw 77 rfl) (ow hw 51 rfl) (by decide) (by decide)) q13a q13c (g := (mkF m 65 #[.val (.int ja), .val (.int jb), .val (.int kk), .val (.int (1 : Int32)), .val (.ref b1), .val (.ref b3), .val (.ref b10), .unset] [(.ref b3), (.ref b10)])) rfl (by rw [hml]; rfl) (Steps.refl _) (argsL := [(.ref b3)]) (rest := []) (lenOf pd_11 rfl) rfl (by show 2 * 0 + _ ≤ _; exact Nat.le_of_eq rfl) (hb hby at_65) (fun _ _ => ⟨rfl, rfl, (by decide : 7 + 1 ≤ _), (by decide : 27 + 10 ≤ _)⟩)
  dsimp only [Pt.U, Pt.locs, Pt.cells, Pt.slots] at X13 l13 y13 z13 st13 hQ13
  subst l13 y13 z13
  obtain ⟨nb_13, ka_13, rfl, Nq13, gb13_0, Kp13, Fq13_0, Fq13_1, Fq13_2, Fq13_3, Fq13_4, Pq13_0⟩ := hQ13
  have N13 := Fr.app N11 Nq13
  have f18 : Fld Z T13.heap b1 "com/example/sortition/sortition/Slots" "size" "I" (.int kk) := ((((((Fq2_1.ext E3).ext E4).keep Kp5 (ninS (Nat.ne_of_lt (Nat.lt_of_lt_of_le Fq2_0.lt (Nat.le_of_eq g3.symm))) nin0)).ext E10).keep Kp11 (ninS (Nat.ne_of_lt (Nat.lt_of_lt_of_le (((Fq2_0.ext E3).ext E4).keep Kp5).lt (Nat.le_of_eq g10.symm))) nin0)).keep Kp13 (ninS (Nat.ne_of_lt (Nat.lt_of_lt_of_le (((Fq2_0.ext E3).ext E4).keep Kp5).lt (Nat.le_of_eq g10.symm))) nin0))
  have f19 : Exa Z T13.heap b1 "com/example/sortition/sortition/Slots" := ((((((Fq2_0.ext E3).ext E4).keep Kp5).ext E10).keep Kp11).keep Kp13)
  obtain ⟨cq17, kq17, q17a, q17b, q17c⟩ := isOf hZ5 rfl f19
  obtain ⟨_, _, ⟨T17, L17, k17, n17⟩, -, X17, ⟨Lc17, hQ17, l17, y17, z17⟩, st17⟩ := X13.virtualBack hx (y := (⟨"com/example/sortition/sortition/Slots", "allows", "(Ljava/util/List;)Z"⟩ : MethodName)) (z := (⟨"com/example/sortition/sortition/Slots", "allows", "(Ljava/util/List;)Z"⟩ : MethodName)) hown5 (mvT hZ5 (ow hw 104 rfl)) (mvT hZ5 (ow hw 105 rfl)) (notFace_of_selects (args := #[]) (mvT hZ5 (ow hw 107 rfl))) (mvT hZ5 (ow hw 107 rfl)) (mvT hZ5 (ow hw 106 rfl)) (by decide) (backOf (W := 0) (rmAW_t l Z a0 hw [] b1 b10 (1 : Int32) kk T13.heap n0 (Nat.le_trans (Nat.le_trans (Nat.le_trans (Nat.le_trans (Nat.le_trans (Nat.le_trans (Nat.le_trans (Nat.le_trans Z0 E1.1) Kp2.1) E3.1) E4.1) Kp5.1) E10.1) Kp11.1) Kp13.1) Fq13_0 Fq13_3 f18 hrd) hZ5 (ow hw 108 rfl) (ow hw 2 rfl) (by decide) (by decide)) q17a q17c (g := (mkF m 164 #[.val (.int ja), .val (.int jb), .val (.int kk), .val (.int (1 : Int32)), .val (.ref b1), .val (.ref b3), .val (.ref b10), .val (.int (0 : Int32))] [(.ref b10), (.ref b1)])) rfl (by rw [hml]; rfl) (Steps.refl _) (argsL := [(.ref b10)]) (rest := []) (lenOf pd_10 rfl) rfl (by show 2 * 0 + _ ≤ _; exact Nat.le_of_eq rfl) (hb hby at_164) (fun _ _ => ⟨rfl, rfl, (by decide : 8 + 0 ≤ _), (by decide : 37 + 0 ≤ _)⟩)
  dsimp only [Pt.U, Pt.locs, Pt.cells, Pt.slots] at X17 l17 y17 z17 st17 hQ17
  subst l17 y17 z17
  obtain ⟨rfl, Nq17, e17⟩ := hQ17
  have N17 := Fr.app N13 Nq17
  obtain ⟨fs, hr, hrun, hended, hRW⟩ := X17.leaveW (s := s) hS5 (by rw [e17]; exact (Nat.le_trans (Nat.le_trans (Nat.le_trans (Nat.le_refl _) E10.1) Kp11.1) Kp13.1)) (v := some (.int (1 : Int32))) (fun h => by rw [Bd.returns] at h; cases h)
  refine ⟨_, _, pre0 _ ?_, hrun, hended, _, _, rfl, ?_, hRW.1, hRW.2.1, hRW.2.2.1, hRW.2.2.2.mono (by decide) (by decide)⟩
  · show Steps p.tables e below (s₁.setTop (mkF m 0 #[.val (.int ja), .val (.int jb), .unset, .unset, .unset, .unset, .unset, .unset] [])) _
    refine stp _ ?_
    show Steps p.tables e below (s₁.setTop (mkF m 20 #[.val (.int ja), .val (.int jb), .val (.int kk), .unset, .unset, .unset, .unset, .unset] [])) _
    refine XS.iloadN X0.here hx rfl (hb hby at_20) rfl ?_
    show Steps p.tables e below (s₁.setTop (mkF m 21 #[.val (.int ja), .val (.int jb), .val (.int kk), .unset, .unset, .unset, .unset, .unset] [(.int jb)])) _
    refine XS.bipush X0.here hx rfl (hb hby at_21) ?_
    show Steps p.tables e below (s₁.setTop (mkF m 23 #[.val (.int ja), .val (.int jb), .val (.int kk), .unset, .unset, .unset, .unset, .unset] [(.int (7 : Int32)), (.int jb)])) _
    refine XS.iand X0.here hx rfl (hb hby at_23) rfl ?_
    show Steps p.tables e below (s₁.setTop (mkF m 24 #[.val (.int ja), .val (.int jb), .val (.int kk), .unset, .unset, .unset, .unset, .unset] [(.int (jb &&& (7 : Int32)))])) _
    rw [hn]
    show Steps p.tables e below (s₁.setTop (mkF m 24 #[.val (.int ja), .val (.int jb), .val (.int kk), .unset, .unset, .unset, .unset, .unset] [(.int (1 : Int32))])) _
    refine XS.istoreN X0.here hx rfl (hb hby at_24) rfl (l' := #[.val (.int ja), .val (.int jb), .val (.int kk), .val (.int (1 : Int32)), .unset, .unset, .unset, .unset]) rfl ?_
    show Steps p.tables e below (s₁.setTop (mkF m 25 #[.val (.int ja), .val (.int jb), .val (.int kk), .val (.int (1 : Int32)), .unset, .unset, .unset, .unset] [])) _
    refine st1 _ ?_
    show Steps p.tables e below (T1.setTop (mkF m 28 #[.val (.int ja), .val (.int jb), .val (.int kk), .val (.int (1 : Int32)), .unset, .unset, .unset, .unset] [(.ref b1)])) _
    refine XS.dup X1.here hx rfl (hb hby at_28) rfl rfl ?_
    show Steps p.tables e below (T1.setTop (mkF m 29 #[.val (.int ja), .val (.int jb), .val (.int kk), .val (.int (1 : Int32)), .unset, .unset, .unset, .unset] [(.ref b1), (.ref b1)])) _
    refine XS.iloadN X1.here hx rfl (hb hby at_29) rfl ?_
    show Steps p.tables e below (T1.setTop (mkF m 30 #[.val (.int ja), .val (.int jb), .val (.int kk), .val (.int (1 : Int32)), .unset, .unset, .unset, .unset] [(.int kk), (.ref b1), (.ref b1)])) _
    refine st2.trans ?_
    show Steps p.tables e below (T2.setTop (mkF m 33 #[.val (.int ja), .val (.int jb), .val (.int kk), .val (.int (1 : Int32)), .unset, .unset, .unset, .unset] [(.ref b1)])) _
    refine XS.astore X2.here hx rfl (hb hby at_33) rfl rfl (l' := #[.val (.int ja), .val (.int jb), .val (.int kk), .val (.int (1 : Int32)), .val (.ref b1), .unset, .unset, .unset]) rfl ?_
    show Steps p.tables e below (T2.setTop (mkF m 35 #[.val (.int ja), .val (.int jb), .val (.int kk), .val (.int (1 : Int32)), .val (.ref b1), .unset, .unset, .unset] [])) _
    refine st3 _ ?_
    show Steps p.tables e below (T3.setTop (mkF m 38 #[.val (.int ja), .val (.int jb), .val (.int kk), .val (.int (1 : Int32)), .val (.ref b1), .unset, .unset, .unset] [(.ref b3)])) _
    refine XS.dup X3.here hx rfl (hb hby at_38) rfl rfl ?_
    show Steps p.tables e below (T3.setTop (mkF m 39 #[.val (.int ja), .val (.int jb), .val (.int kk), .val (.int (1 : Int32)), .val (.ref b1), .unset, .unset, .unset] [(.ref b3), (.ref b3)])) _
    refine XS.iconst X3.here hx rfl (hb hby at_39) ?_
    show Steps p.tables e below (T3.setTop (mkF m 40 #[.val (.int ja), .val (.int jb), .val (.int kk), .val (.int (1 : Int32)), .val (.ref b1), .unset, .unset, .unset] [(.int (0 : Int32)), (.ref b3), (.ref b3)])) _
    refine st4 _ ?_
    show Steps p.tables e below (T4.setTop (mkF m 42 #[.val (.int ja), .val (.int jb), .val (.int kk), .val (.int (1 : Int32)), .val (.ref b1), .unset, .unset, .unset] [(.ref a4), (.int (0 : Int32)), (.ref b3), (.ref b3)])) _
    refine XS.dconst1 X4.here hx rfl (hb hby at_42) (v := 4607182418800017408) rfl ?_
    show Steps p.tables e below (T4.setTop (mkF m 43 #[.val (.int ja), .val (.int jb), .val (.int kk), .val (.int (1 : Int32)), .val (.ref b1), .unset, .unset, .unset] [(.double 4607182418800017408), (.ref a4), (.int (0 : Int32)), (.ref b3), (.ref b3)])) _
    refine st5.trans ?_
    show Steps p.tables e below (T5.setTop (mkF m 46 #[.val (.int ja), .val (.int jb), .val (.int kk), .val (.int (1 : Int32)), .val (.ref b1), .unset, .unset, .unset] [(.ref b3)])) _
    refine XS.astore X5.here hx rfl (hb hby at_46) rfl rfl (l' := #[.val (.int ja), .val (.int jb), .val (.int kk), .val (.int (1 : Int32)), .val (.ref b1), .val (.ref b3), .unset, .unset]) rfl ?_
    show Steps p.tables e below (T5.setTop (mkF m 48 #[.val (.int ja), .val (.int jb), .val (.int kk), .val (.int (1 : Int32)), .val (.ref b1), .val (.ref b3), .unset, .unset] [])) _
    refine st10 _ ?_
    show Steps p.tables e below (T10.setTop (mkF m 51 #[.val (.int ja), .val (.int jb), .val (.int kk), .val (.int (1 : Int32)), .val (.ref b1), .val (.ref b3), .unset, .unset] [(.ref b10)])) _
    refine XS.dup X10.here hx rfl (hb hby at_51) rfl rfl ?_
    show Steps p.tables e below (T10.setTop (mkF m 52 #[.val (.int ja), .val (.int jb), .val (.int kk), .val (.int (1 : Int32)), .val (.ref b1), .val (.ref b3), .unset, .unset] [(.ref b10), (.ref b10)])) _
    refine st11.trans ?_
    show Steps p.tables e below (T11.setTop (mkF m 55 #[.val (.int ja), .val (.int jb), .val (.int kk), .val (.int (1 : Int32)), .val (.ref b1), .val (.ref b3), .unset, .unset] [(.ref b10)])) _
    refine XS.astore X11.here hx rfl (hb hby at_55) rfl rfl (l' := #[.val (.int ja), .val (.int jb), .val (.int kk), .val (.int (1 : Int32)), .val (.ref b1), .val (.ref b3), .val (.ref b10), .unset]) rfl ?_
    show Steps p.tables e below (T11.setTop (mkF m 57 #[.val (.int ja), .val (.int jb), .val (.int kk), .val (.int (1 : Int32)), .val (.ref b1), .val (.ref b3), .val (.ref b10), .unset] [])) _
    refine XS.iloadN X11.here hx rfl (hb hby at_57) rfl ?_
    show Steps p.tables e below (T11.setTop (mkF m 58 #[.val (.int ja), .val (.int jb), .val (.int kk), .val (.int (1 : Int32)), .val (.ref b1), .val (.ref b3), .val (.ref b10), .unset] [(.int (1 : Int32))])) _
    refine XS.ifNo X11.here hx rfl (hb hby at_58) rfl ((if0 _ _).trans (tlt (by decide : (0 : Int32) < (1 : Int32))).2.2.2) ?_
    show Steps p.tables e below (T11.setTop (mkF m 61 #[.val (.int ja), .val (.int jb), .val (.int kk), .val (.int (1 : Int32)), .val (.ref b1), .val (.ref b3), .val (.ref b10), .unset] [])) _
    refine XS.aload X11.here hx rfl (hb hby at_61) rfl rfl ?_
    show Steps p.tables e below (T11.setTop (mkF m 63 #[.val (.int ja), .val (.int jb), .val (.int kk), .val (.int (1 : Int32)), .val (.ref b1), .val (.ref b3), .val (.ref b10), .unset] [(.ref b10)])) _
    refine XS.aload X11.here hx rfl (hb hby at_63) rfl rfl ?_
    show Steps p.tables e below (T11.setTop (mkF m 65 #[.val (.int ja), .val (.int jb), .val (.int kk), .val (.int (1 : Int32)), .val (.ref b1), .val (.ref b3), .val (.ref b10), .unset] [(.ref b3), (.ref b10)])) _
    refine st13.trans ?_
    show Steps p.tables e below (T13.setTop (mkF m 68 #[.val (.int ja), .val (.int jb), .val (.int kk), .val (.int (1 : Int32)), .val (.ref b1), .val (.ref b3), .val (.ref b10), .unset] [(.int (1 : Int32))])) _
    refine XS.pop X13.here hx rfl (hb hby at_68) rfl rfl ?_
    show Steps p.tables e below (T13.setTop (mkF m 69 #[.val (.int ja), .val (.int jb), .val (.int kk), .val (.int (1 : Int32)), .val (.ref b1), .val (.ref b3), .val (.ref b10), .unset] [])) _
    refine XS.iloadN X13.here hx rfl (hb hby at_69) rfl ?_
    show Steps p.tables e below (T13.setTop (mkF m 70 #[.val (.int ja), .val (.int jb), .val (.int kk), .val (.int (1 : Int32)), .val (.ref b1), .val (.ref b3), .val (.ref b10), .unset] [(.int (1 : Int32))])) _
    refine XS.iconst X13.here hx rfl (hb hby at_70) ?_
    show Steps p.tables e below (T13.setTop (mkF m 71 #[.val (.int ja), .val (.int jb), .val (.int kk), .val (.int (1 : Int32)), .val (.ref b1), .val (.ref b3), .val (.ref b10), .unset] [(.int (1 : Int32)), (.int (1 : Int32))])) _
    refine XS.icmpYes X13.here hx rfl (pc0 := 71) (pc' := 82) rfl (hb hby at_71) rfl (flt (by decide : ¬ ((1 : Int32) < (1 : Int32)))).2.2.2 (by decide) (by decide) ?_
    show Steps p.tables e below (T13.setTop (mkF m 82 #[.val (.int ja), .val (.int jb), .val (.int kk), .val (.int (1 : Int32)), .val (.ref b1), .val (.ref b3), .val (.ref b10), .unset] [])) _
    refine XS.iloadN X13.here hx rfl (hb hby at_82) rfl ?_
    show Steps p.tables e below (T13.setTop (mkF m 83 #[.val (.int ja), .val (.int jb), .val (.int kk), .val (.int (1 : Int32)), .val (.ref b1), .val (.ref b3), .val (.ref b10), .unset] [(.int (1 : Int32))])) _
    refine XS.iconst X13.here hx rfl (hb hby at_83) ?_
    show Steps p.tables e below (T13.setTop (mkF m 84 #[.val (.int ja), .val (.int jb), .val (.int kk), .val (.int (1 : Int32)), .val (.ref b1), .val (.ref b3), .val (.ref b10), .unset] [(.int (2 : Int32)), (.int (1 : Int32))])) _
    refine XS.icmpYes X13.here hx rfl (pc0 := 84) (pc' := 95) rfl (hb hby at_84) rfl (flt (by decide : ¬ ((2 : Int32) < (1 : Int32)))).2.2.2 (by decide) (by decide) ?_
    show Steps p.tables e below (T13.setTop (mkF m 95 #[.val (.int ja), .val (.int jb), .val (.int kk), .val (.int (1 : Int32)), .val (.ref b1), .val (.ref b3), .val (.ref b10), .unset] [])) _
    refine XS.iloadN X13.here hx rfl (hb hby at_95) rfl ?_
    show Steps p.tables e below (T13.setTop (mkF m 96 #[.val (.int ja), .val (.int jb), .val (.int kk), .val (.int (1 : Int32)), .val (.ref b1), .val (.ref b3), .val (.ref b10), .unset] [(.int (1 : Int32))])) _
    refine XS.iconst X13.here hx rfl (hb hby at_96) ?_
    show Steps p.tables e below (T13.setTop (mkF m 97 #[.val (.int ja), .val (.int jb), .val (.int kk), .val (.int (1 : Int32)), .val (.ref b1), .val (.ref b3), .val (.ref b10), .unset] [(.int (3 : Int32)), (.int (1 : Int32))])) _
    refine XS.icmpYes X13.here hx rfl (pc0 := 97) (pc' := 108) rfl (hb hby at_97) rfl (flt (by decide : ¬ ((3 : Int32) < (1 : Int32)))).2.2.2 (by decide) (by decide) ?_
    show Steps p.tables e below (T13.setTop (mkF m 108 #[.val (.int ja), .val (.int jb), .val (.int kk), .val (.int (1 : Int32)), .val (.ref b1), .val (.ref b3), .val (.ref b10), .unset] [])) _
    refine XS.iloadN X13.here hx rfl (hb hby at_108) rfl ?_
    show Steps p.tables e below (T13.setTop (mkF m 109 #[.val (.int ja), .val (.int jb), .val (.int kk), .val (.int (1 : Int32)), .val (.ref b1), .val (.ref b3), .val (.ref b10), .unset] [(.int (1 : Int32))])) _
    refine XS.iconst X13.here hx rfl (hb hby at_109) ?_
    show Steps p.tables e below (T13.setTop (mkF m 110 #[.val (.int ja), .val (.int jb), .val (.int kk), .val (.int (1 : Int32)), .val (.ref b1), .val (.ref b3), .val (.ref b10), .unset] [(.int (4 : Int32)), (.int (1 : Int32))])) _
    refine XS.icmpYes X13.here hx rfl (pc0 := 110) (pc' := 121) rfl (hb hby at_110) rfl (flt (by decide : ¬ ((4 : Int32) < (1 : Int32)))).2.2.2 (by decide) (by decide) ?_
    show Steps p.tables e below (T13.setTop (mkF m 121 #[.val (.int ja), .val (.int jb), .val (.int kk), .val (.int (1 : Int32)), .val (.ref b1), .val (.ref b3), .val (.ref b10), .unset] [])) _
    refine XS.iloadN X13.here hx rfl (hb hby at_121) rfl ?_
    show Steps p.tables e below (T13.setTop (mkF m 122 #[.val (.int ja), .val (.int jb), .val (.int kk), .val (.int (1 : Int32)), .val (.ref b1), .val (.ref b3), .val (.ref b10), .unset] [(.int (1 : Int32))])) _
    refine XS.iconst X13.here hx rfl (hb hby at_122) ?_
    show Steps p.tables e below (T13.setTop (mkF m 123 #[.val (.int ja), .val (.int jb), .val (.int kk), .val (.int (1 : Int32)), .val (.ref b1), .val (.ref b3), .val (.ref b10), .unset] [(.int (5 : Int32)), (.int (1 : Int32))])) _
    refine XS.icmpYes X13.here hx rfl (pc0 := 123) (pc' := 134) rfl (hb hby at_123) rfl (flt (by decide : ¬ ((5 : Int32) < (1 : Int32)))).2.2.2 (by decide) (by decide) ?_
    show Steps p.tables e below (T13.setTop (mkF m 134 #[.val (.int ja), .val (.int jb), .val (.int kk), .val (.int (1 : Int32)), .val (.ref b1), .val (.ref b3), .val (.ref b10), .unset] [])) _
    refine XS.iloadN X13.here hx rfl (hb hby at_134) rfl ?_
    show Steps p.tables e below (T13.setTop (mkF m 135 #[.val (.int ja), .val (.int jb), .val (.int kk), .val (.int (1 : Int32)), .val (.ref b1), .val (.ref b3), .val (.ref b10), .unset] [(.int (1 : Int32))])) _
    refine XS.bipush X13.here hx rfl (hb hby at_135) ?_
    show Steps p.tables e below (T13.setTop (mkF m 137 #[.val (.int ja), .val (.int jb), .val (.int kk), .val (.int (1 : Int32)), .val (.ref b1), .val (.ref b3), .val (.ref b10), .unset] [(.int (6 : Int32)), (.int (1 : Int32))])) _
    refine XS.icmpYes X13.here hx rfl (pc0 := 137) (pc' := 148) rfl (hb hby at_137) rfl (flt (by decide : ¬ ((6 : Int32) < (1 : Int32)))).2.2.2 (by decide) (by decide) ?_
    show Steps p.tables e below (T13.setTop (mkF m 148 #[.val (.int ja), .val (.int jb), .val (.int kk), .val (.int (1 : Int32)), .val (.ref b1), .val (.ref b3), .val (.ref b10), .unset] [])) _
    refine XS.iloadN X13.here hx rfl (hb hby at_148) rfl ?_
    show Steps p.tables e below (T13.setTop (mkF m 149 #[.val (.int ja), .val (.int jb), .val (.int kk), .val (.int (1 : Int32)), .val (.ref b1), .val (.ref b3), .val (.ref b10), .unset] [(.int (1 : Int32))])) _
    refine XS.iloadN X13.here hx rfl (hb hby at_149) rfl ?_
    show Steps p.tables e below (T13.setTop (mkF m 150 #[.val (.int ja), .val (.int jb), .val (.int kk), .val (.int (1 : Int32)), .val (.ref b1), .val (.ref b3), .val (.ref b10), .unset] [(.int kk), (.int (1 : Int32))])) _
    refine XS.icmpYes X13.here hx rfl (pc0 := 150) (pc' := 157) rfl (hb hby at_150) rfl (tlt hrd).2.2.1 (by decide) (by decide) ?_
    show Steps p.tables e below (T13.setTop (mkF m 157 #[.val (.int ja), .val (.int jb), .val (.int kk), .val (.int (1 : Int32)), .val (.ref b1), .val (.ref b3), .val (.ref b10), .unset] [])) _
    refine XS.iconst X13.here hx rfl (hb hby at_157) ?_
    show Steps p.tables e below (T13.setTop (mkF m 158 #[.val (.int ja), .val (.int jb), .val (.int kk), .val (.int (1 : Int32)), .val (.ref b1), .val (.ref b3), .val (.ref b10), .unset] [(.int (0 : Int32))])) _
    refine XS.istore X13.here hx rfl (hb hby at_158) rfl (l' := #[.val (.int ja), .val (.int jb), .val (.int kk), .val (.int (1 : Int32)), .val (.ref b1), .val (.ref b3), .val (.ref b10), .val (.int (0 : Int32))]) rfl ?_
    show Steps p.tables e below (T13.setTop (mkF m 160 #[.val (.int ja), .val (.int jb), .val (.int kk), .val (.int (1 : Int32)), .val (.ref b1), .val (.ref b3), .val (.ref b10), .val (.int (0 : Int32))] [])) _
    refine XS.aload X13.here hx rfl (hb hby at_160) rfl rfl ?_
    show Steps p.tables e below (T13.setTop (mkF m 162 #[.val (.int ja), .val (.int jb), .val (.int kk), .val (.int (1 : Int32)), .val (.ref b1), .val (.ref b3), .val (.ref b10), .val (.int (0 : Int32))] [(.ref b1)])) _
    refine XS.aload X13.here hx rfl (hb hby at_162) rfl rfl ?_
    show Steps p.tables e below (T13.setTop (mkF m 164 #[.val (.int ja), .val (.int jb), .val (.int kk), .val (.int (1 : Int32)), .val (.ref b1), .val (.ref b3), .val (.ref b10), .val (.int (0 : Int32))] [(.ref b10), (.ref b1)])) _
    refine st17.trans ?_
    show Steps p.tables e below (T17.setTop (mkF m 167 #[.val (.int ja), .val (.int jb), .val (.int kk), .val (.int (1 : Int32)), .val (.ref b1), .val (.ref b3), .val (.ref b10), .val (.int (0 : Int32))] [(.int (0 : Int32))])) _
    refine XS.iload X17.here hx rfl (hb hby at_167) rfl ?_
    show Steps p.tables e below (T17.setTop (mkF m 169 #[.val (.int ja), .val (.int jb), .val (.int kk), .val (.int (1 : Int32)), .val (.ref b1), .val (.ref b3), .val (.ref b10), .val (.int (0 : Int32))] [(.int (0 : Int32)), (.int (0 : Int32))])) _
    refine XS.icmpNo X17.here hx rfl (hb hby at_169) rfl (teq (rfl : (0 : Int32) = (0 : Int32))).2 ?_
    show Steps p.tables e below (T17.setTop (mkF m 172 #[.val (.int ja), .val (.int jb), .val (.int kk), .val (.int (1 : Int32)), .val (.ref b1), .val (.ref b3), .val (.ref b10), .val (.int (0 : Int32))] [])) _
    refine XS.iconst X17.here hx rfl (hb hby at_172) ?_
    show Steps p.tables e below (T17.setTop (mkF m 173 #[.val (.int ja), .val (.int jb), .val (.int kk), .val (.int (1 : Int32)), .val (.ref b1), .val (.ref b3), .val (.ref b10), .val (.int (0 : Int32))] [(.int (1 : Int32))])) _
    refine XS.goto X17.here hx rfl (pc0 := 173) (pc' := 177) rfl (hb hby at_173) (by decide) (by decide) ?_
    show Steps p.tables e below (T17.setTop (mkF m 177 #[.val (.int ja), .val (.int jb), .val (.int kk), .val (.int (1 : Int32)), .val (.ref b1), .val (.ref b3), .val (.ref b10), .val (.int (0 : Int32))] [(.int (1 : Int32))])) _
    exact retN X17 hx (t := .boolean) Bd.returns (by simp) (hb hby at_177) hr
  · show Q_rm0_1t Z ja jb kk de kd h0 n0 _ T17.heap _
    rw [e17]
    exact ⟨rfl, N17⟩
def Q_rm0_1f (Z : State) (ja : Int32) (jb : Int32) (kk : Int32) (de : Addr) (kd : ClassId) (h0 : Heap) (n0 : Nat) (v : Option Value) (h : Heap) (L : List Loc) : Prop := v = some (.int (1 : Int32)) ∧ Fr n0 L
theorem ef_rm0_1f (m : MethodId) (ja : Int32) (jb : Int32) : entryFrame m #[(.int ja), (.int jb)] maxLocals = mkF m 0 #[.val (.int ja), .val (.int jb), .unset, .unset, .unset, .unset, .unset, .unset] [] := by first | (simp [entryFrame, mkF, argsToLocals, Value.category, maxLocals]; done) | rfl
set_option maxRecDepth 65536 in
set_option maxHeartbeats 40000000 in
theorem rm0_1f (l : Launch) (Z : State) (a0 : Array Value) (hw : ∀ d ∈ tables_1, d.before a0 Z = true) (ws : List Jvm.Cond) (ja : Int32) (jb : Int32) (kk : Int32) (de : Addr) (kd : ClassId) (h0 : Heap) (n0 : Nat) (Z0 : n0 ≤ h0.size) (hwS : ∀ a ∈ Bundle.stringAtoms, a.before a0 Z = true) (hn0 : n0 = h0.size) (hcn : Jvm.Lit.constHeld Z "com/example/sortition/sortition/SlotsAllowsPinLaw" 15) (hcw : Jvm.Lit.compactW.before a0 Z = true) (S_DE : Sta Z h0 "java/util/ArrayList" "DEFAULTCAPACITY_EMPTY_ELEMENTDATA" "[Ljava/lang/Object;" (.ref de)) (V_de : Arv Z h0 de kd (.object "java/lang/Object") (0 : Int32) [] .null) (hkk : (own_k ja jb) = kk) (gkk : ¬ (kk < (0 : Int32))) (hn : (jb &&& (7 : Int32)) = (1 : Int32)) (hrd : ¬ (kk < (1 : Int32))) :
    MetFree l x (head1 (Jvm.Cond.code x code maxLocals ret :: ws) room_1) (fun a U => a = #[(.int ja), (.int jb)] ∧ Z.Warmed39 U.vm ∧ U.heap = h0 ∧ U.vm.interned = Z.vm.interned ∧ (∀ (b : Addr) (cl : Cell), Z.heap[b]? = some cl → U.heap[b]? = some cl)) (fun _ _ _ _ _ => True) (fun _ U o U' => ∃ v L, o = .returned v ∧ Q_rm0_1f Z ja jb kk de kd h0 n0 v U'.heap L ∧ ReturnedEndW U o U' L room_1.cells room_1.slots) := by
  refine MetFree.of_bodySF (plainFor_of_name pn_8) hisR ?_
  intro p e s m args below meth c s₁ Bd hml0 hP hK
  obtain ⟨rfl, hZ, hh, hI0, hK0⟩ := hP
  have hx := Bd.exec
  have hby := Bd.bytes
  have hml : c.maxLocals = 8 := hml0
  have hown : s.vm.findClass "com/example/sortition/sortition/SlotsAllowsPinLaw" = some m.cls := findClass_of_methodNamed Bd.named
  have hnm := (name_of_methodNamed Bd.named Bd.method).1
  have X0 : Stand p l e room_1 s m #[(.int ja), (.int jb)] below meth c s₁ [] 0 0 := Stand.of_body Bd
  have e0 : s₁.heap = h0 := by rw [← hh, Bd.state]; rfl
  have N0 := Fr.nil n0
  have hS0 := (State.WarmedH.refl s).since 0
  have pre0 : ∀ t, Steps p.tables e below (s₁.setTop (mkF m 0 #[.val (.int ja), .val (.int jb), .unset, .unset, .unset, .unset, .unset, .unset] [])) t → Steps p.tables e below (s₁.setTop (entryFrame m #[(.int ja), (.int jb)] maxLocals)) t := fun t k => castTop (ef_rm0_1f m ja jb) k
  have stp := own_pre ja jb X0 hx hZ hw hby hown
  rw [hkk] at stp
  obtain ⟨T1, h1, X1, e1, E1, A1, D1, -, st1⟩ := newO X0 hx hZ hown (ow hw 0 rfl) (ow hw 1 rfl) (ow hw 2 rfl) e0 (g := (mkF m 25 #[.val (.int ja), .val (.int jb), .val (.int kk), .val (.int (1 : Int32)), .unset, .unset, .unset, .unset] [])) rfl (hb hby at_25) (by decide) (by decide)
  obtain ⟨b1, g1⟩ : ∃ z, z = h0.size := ⟨_, rfl⟩
  rw [← g1] at A1 D1 st1
  have F1_3 : Fld Z h1 b1 "com/example/sortition/sortition/Slots" "size" "I" (.int (0 : Int32)) := D1 (Or.inr (ow hw 15 rfl)) (ty := .int) (by decide)
  obtain ⟨_, _, ⟨T2, L2, k2, n2⟩, -, X2, ⟨Lc2, hQ2, l2, y2, z2⟩, st2⟩ := X1.specialBack hx (y := (⟨"com/example/sortition/sortition/Slots", "<init>", "(I)V"⟩ : MethodName)) rfl hown (mvT hZ (ow hw 3 rfl)) (mvT hZ (ow hw 4 rfl)) (mvT hZ (ow hw 5 rfl)) (by decide) (backOf (W := 1) (rmSl l Z a0 hw [] b1 kk (.int (0 : Int32)) h1 n0 (Nat.le_trans Z0 E1.1) gkk F1_3 A1 (Nat.le_trans Z0 (Nat.le_of_eq g1.symm))) hZ (ow hw 5 rfl) (ow hw 2 rfl) (by decide) (by decide)) (g := (mkF m 30 #[.val (.int ja), .val (.int jb), .val (.int kk), .val (.int (1 : Int32)), .unset, .unset, .unset, .unset] [(.int kk), (.ref b1), (.ref b1)])) rfl (by rw [hml]; rfl) (Steps.refl _) (a := b1) (argsL := [(.int kk)]) (rest := [(.ref b1)]) (lenOf pd_8 rfl) rfl (by show 2 * 0 + _ ≤ _; exact Nat.le_of_eq rfl) (hb hby at_30) (fun _ _ => ⟨rfl, e1, (by decide : 1 + 0 ≤ _), (by decide : 1 + 0 ≤ _)⟩)
  dsimp only [Pt.U, Pt.locs, Pt.cells, Pt.slots] at X2 l2 y2 z2 st2 hQ2
  subst l2 y2 z2
  obtain ⟨rfl, Nq2, Kp2, Fq2_0, Fq2_1⟩ := hQ2
  have N2 := Fr.app N0 Nq2
  obtain ⟨T3, h3, X3, e3, E3, A3, D3, -, st3⟩ := newO X2 hx hZ hown (ow hw 16 rfl) (ow hw 17 rfl) (ow hw 18 rfl) rfl (g := (mkF m 35 #[.val (.int ja), .val (.int jb), .val (.int kk), .val (.int (1 : Int32)), .val (.ref b1), .unset, .unset, .unset] [])) rfl (hb hby at_35) (by decide) (by decide)
  obtain ⟨b3, g3⟩ : ∃ z, z = T2.heap.size := ⟨_, rfl⟩
  rw [← g3] at A3 D3 st3
  have F3_5 : Fld Z h3 b3 "com/example/sortition/sortition/Element" "index" "I" (.int (0 : Int32)) := D3 (Or.inr (ow hw 44 rfl)) (ty := .int) (by decide)
  have F3_6 : Fld Z h3 b3 "com/example/sortition/sortition/Element" "id" "Ljava/lang/String;" .null := D3 (Or.inr (ow hw 46 rfl)) (ty := (.object "java/lang/String")) (by decide)
  have F3_7 : Fld Z h3 b3 "com/example/sortition/sortition/Element" "value" "D" (.double 0) := D3 (Or.inr (ow hw 48 rfl)) (ty := .double) (by decide)
  obtain ⟨a4, T4, h4, k4, b4, kc4, X4, e4, E4, hS4, hk4, hZ4, hown4, A4, -, Fv4, V4, -, -, -, st4⟩ := ldcSV (s := s) (vm0 := s.vm) X3 hx hZ hown (ow hw 19 rfl) hwS e3 hS0 (Nat.le_trans (Nat.le_trans (Nat.le_trans (Nat.zero_le _) E1.1) Kp2.1) E3.1) (by rw [hh, ← hn0]; exact N2) hK0 (⟨#[], by simpa using hI0, fun q hq => by simp at hq⟩ : IB Z s.vm []) (by simp) hcn hcw (vs := [(.int (120 : Int32))]) (z := (1 : Int32)) ⟨by decide, by decide⟩ (by decide) rfl (g := (mkF m 40 #[.val (.int ja), .val (.int jb), .val (.int kk), .val (.int (1 : Int32)), .val (.ref b1), .unset, .unset, .unset] [(.int (0 : Int32)), (.ref b3), (.ref b3)])) rfl (hb hby at_40) (n := 4) (by decide) (by decide) (by decide) (by decide)
  have f6 : Fld Z h4 b3 "com/example/sortition/sortition/Element" "index" "I" (.int (0 : Int32)) := (F3_5.ext E4)
  have f7 : Exa Z h4 b3 "com/example/sortition/sortition/Element" := (A3.ext E4)
  have f8 : Fld Z h4 b3 "com/example/sortition/sortition/Element" "id" "Ljava/lang/String;" .null := (F3_6.ext E4)
  have f9 : Fld Z h4 b3 "com/example/sortition/sortition/Element" "value" "D" (.double 0) := (F3_7.ext E4)
  obtain ⟨_, _, ⟨T5, L5, k5, n5⟩, -, X5, hSq5, hgq5, ⟨Lc5, hQ5, l5, y5, z5⟩, st5⟩ := X4.specialBackS hx (y := (⟨"com/example/sortition/sortition/Element", "<init>", "(ILjava/lang/String;D)V"⟩ : MethodName)) rfl hown4 (mvT hZ4 (ow hw 27 rfl)) (mvT hZ4 (ow hw 28 rfl)) (mvT hZ4 (ow hw 29 rfl)) (by decide) (backOfS (W := 1) (rmEI l Z a0 hw [] b3 (0 : Int32) a4 4607182418800017408 b4 kc4 [(.int (120 : Int32))] (.int (0 : Int32)) .null (.double 0) h4 n0 (Nat.le_trans (Nat.le_trans (Nat.le_trans (Nat.le_trans Z0 E1.1) Kp2.1) E3.1) E4.1) hwS A4 Fv4 V4 (by first | assumption | decide) (by decide +kernel) (by decide +kernel) own_nn1 f6 f7 (Nat.le_trans (Nat.le_trans (Nat.le_trans Z0 E1.1) Kp2.1) (Nat.le_of_eq g3.symm)) f8 f9) hZ4 (ow hw 29 rfl) (ow hw 18 rfl) (by decide) (by decide)) (g := (mkF m 43 #[.val (.int ja), .val (.int jb), .val (.int kk), .val (.int (1 : Int32)), .val (.ref b1), .unset, .unset, .unset] [(.double 4607182418800017408), (.ref a4), (.int (0 : Int32)), (.ref b3), (.ref b3)])) rfl (by rw [hml]; rfl) (Steps.refl _) (a := b3) (argsL := [(.int (0 : Int32)), (.ref a4), (.double 4607182418800017408)]) (rest := [(.ref b3)]) (lenOf pd_9 rfl) rfl (by show 2 * 0 + _ ≤ _; exact Nat.le_of_eq rfl) (hb hby at_43) (fun _ _ => ⟨rfl, e4, (by decide : 4 + 2 ≤ _), (by decide : 12 + 12 ≤ _)⟩)
  dsimp only [Pt.U, Pt.locs, Pt.cells, Pt.slots] at X5 l5 y5 z5 st5 hQ5 hSq5 hgq5
  subst l5 y5 z5
  obtain ⟨X5, hS5, hZ5, hown5⟩ := rebS (s := s) (vm0 := T4.vm) hS4 (by rw [e4]; exact hk4) X5 hSq5 hgq5 hZ4 hown4
  obtain ⟨rfl, Nq5, Kp5, Fq5_0, Fq5_1, Fq5_2⟩ := hQ5
  have N5 := Fr.app N2 Nq5
  obtain ⟨T10, h10, X10, e10, E10, A10, D10, -, st10⟩ := newO X5 hx hZ5 hown5 (ow hw 49 rfl) (ow hw 50 rfl) (ow hw 51 rfl) rfl (g := (mkF m 48 #[.val (.int ja), .val (.int jb), .val (.int kk), .val (.int (1 : Int32)), .val (.ref b1), .val (.ref b3), .unset, .unset] [])) rfl (hb hby at_48) (by decide) (by decide)
  obtain ⟨b10, g10⟩ : ∃ z, z = T5.heap.size := ⟨_, rfl⟩
  rw [← g10] at A10 D10 st10
  have F10_12 : Fld Z h10 b10 "java/util/AbstractList" "modCount" "I" (.int (0 : Int32)) := D10 (Or.inl (ow hw 69 rfl)) (ty := .int) (by decide)
  have F10_13 : Fld Z h10 b10 "java/util/ArrayList" "elementData" "[Ljava/lang/Object;" .null := D10 (Or.inl (ow hw 72 rfl)) (ty := (.array (.object "java/lang/Object"))) (by decide)
  have F10_14 : Fld Z h10 b10 "java/util/ArrayList" "size" "I" (.int (0 : Int32)) := D10 (Or.inl (ow hw 81 rfl)) (ty := .int) (by decide)
  have f12 : Sta Z h10 "java/util/ArrayList" "DEFAULTCAPACITY_EMPTY_ELEMENTDATA" "[Ljava/lang/Object;" (.ref de) := ((Sta_keep (((Sta_keep (S_DE.ext E1) Kp2 (nsS A1.nostat ns0)).ext E3).ext E4) Kp5 (nsS f7.nostat ns0)).ext E10)
  obtain ⟨_, _, ⟨T11, L11, k11, n11⟩, -, X11, ⟨Lc11, hQ11, l11, y11, z11⟩, st11⟩ := X10.specialBack hx (y := (⟨"java/util/ArrayList", "<init>", "()V"⟩ : MethodName)) rfl hown5 (mvT hZ5 (ow hw 52 rfl)) (mvT hZ5 (ow hw 53 rfl)) (mvT hZ5 (ow hw 54 rfl)) (by decide) (backOf (W := 1) (rmAL l Z a0 hw [] b10 de (.int (0 : Int32)) .null h10 n0 (Nat.le_trans (Nat.le_trans (Nat.le_trans (Nat.le_trans (Nat.le_trans (Nat.le_trans Z0 E1.1) Kp2.1) E3.1) E4.1) Kp5.1) E10.1) A10 F10_12 F10_13 f12 F10_14 (Nat.le_trans (Nat.le_trans (Nat.le_trans (Nat.le_trans (Nat.le_trans (Nat.le_trans Z0 E1.1) Kp2.1) E3.1) E4.1) Kp5.1) (Nat.le_of_eq g10.symm))) hZ5 (ow hw 54 rfl) (ow hw 51 rfl) (by decide) (by decide)) (g := (mkF m 52 #[.val (.int ja), .val (.int jb), .val (.int kk), .val (.int (1 : Int32)), .val (.ref b1), .val (.ref b3), .unset, .unset] [(.ref b10), (.ref b10)])) rfl (by rw [hml]; rfl) (Steps.refl _) (a := b10) (argsL := []) (rest := [(.ref b10)]) (lenOf pd_0 rfl) rfl (by show 2 * 0 + _ ≤ _; exact Nat.le_of_eq rfl) (hb hby at_52) (fun _ _ => ⟨rfl, e10, (by decide : 7 + 0 ≤ _), (by decide : 27 + 0 ≤ _)⟩)
  dsimp only [Pt.U, Pt.locs, Pt.cells, Pt.slots] at X11 l11 y11 z11 st11 hQ11
  subst l11 y11 z11
  obtain ⟨rfl, Nq11, Kp11, Fq11_0, Fq11_1, Fq11_2, Fq11_3⟩ := hQ11
  have N11 := Fr.app N5 Nq11
  have f14 : Arv Z T11.heap de kd (.object "java/lang/Object") (0 : Int32) [] .null := (((((((V_de.ext E1).keep Kp2 (ninS (Nat.ne_of_lt (Nat.lt_of_lt_of_le V_de.lt (Nat.le_of_eq g1.symm))) nin0)).ext E3).ext E4).keep Kp5 (ninS (Nat.ne_of_lt (Nat.lt_of_lt_of_le ((V_de.ext E1).keep Kp2 (ninS (Nat.ne_of_lt (Nat.lt_of_lt_of_le V_de.lt (Nat.le_of_eq g1.symm))) nin0)).lt (Nat.le_of_eq g3.symm))) nin0)).ext E10).keep Kp11 (ninS (Nat.ne_of_lt (Nat.lt_of_lt_of_le (((((V_de.ext E1).keep Kp2 (ninS (Nat.ne_of_lt (Nat.lt_of_lt_of_le V_de.lt (Nat.le_of_eq g1.symm))) nin0)).ext E3).ext E4).keep Kp5 (ninS (Nat.ne_of_lt (Nat.lt_of_lt_of_le ((V_de.ext E1).keep Kp2 (ninS (Nat.ne_of_lt (Nat.lt_of_lt_of_le V_de.lt (Nat.le_of_eq g1.symm))) nin0)).lt (Nat.le_of_eq g3.symm))) nin0)).lt (Nat.le_of_eq g10.symm))) nin0))
  have f15 : Sta Z T11.heap "java/util/ArrayList" "DEFAULTCAPACITY_EMPTY_ELEMENTDATA" "[Ljava/lang/Object;" (.ref de) := (Sta_keep f12 Kp11 (nsS A10.nostat ns0))
  have f16 : Exa Z T11.heap b3 "com/example/sortition/sortition/Element" := ((Fq5_0.ext E10).keep Kp11)
  obtain ⟨cq13, kq13, q13a, q13b, q13c⟩ := isOf hZ5 rfl Fq11_0
  obtain ⟨_, _, ⟨T13, L13, k13, n13⟩, -, X13, ⟨Lc13, hQ13, l13, y13, z13⟩, st13⟩ := X11.virtualBack hx (y := (⟨"java/util/ArrayList", "add", "(Ljava/lang/Object;)Z"⟩ : MethodName)) (z := (⟨"java/util/ArrayList", "add", "(Ljava/lang/Object;)Z"⟩ : MethodName)) hown5 (mvT hZ5 (ow hw 73 rfl)) (mvT hZ5 (ow hw 74 rfl)) (notFace_of_selects (args := #[]) (mvT hZ5 (ow hw 76 rfl))) (mvT hZ5 (ow hw 76 rfl)) (mvT hZ5 (ow hw 75 rfl)) (by decide) (backOf (W := 0) (rmA0 l Z a0 hw [] b10 b3 de kd (0 : Int32) T11.heap n0 (Nat.le_trans (Nat.le_trans (Nat.le_trans (Nat.le_trans (Nat.le_trans (Nat.le_trans (Nat.le_trans Z0 E1.1) Kp2.1) E3.1) E4.1) Kp5.1) E10.1) Kp11.1) Fq11_1 Fq11_0 Fq11_2 Fq11_3 f14 f15 f16 (Nat.le_trans (Nat.le_trans (Nat.le_trans (Nat.le_trans (Nat.le_trans (Nat.le_trans Z0 E1.1) Kp2.1) E3.1) E4.1) Kp5.1) (Nat.le_of_eq g10.symm)) (Nat.ne_of_lt (Nat.lt_of_lt_of_le (((((V_de.ext E1).keep Kp2 (ninS (Nat.ne_of_lt (Nat.lt_of_lt_of_le V_de.lt (Nat.le_of_eq g1.symm))) nin0)).ext E3).ext E4).keep Kp5 (ninS (Nat.ne_of_lt (Nat.lt_of_lt_of_le ((V_de.ext E1).keep Kp2 (ninS (Nat.ne_of_lt (Nat.lt_of_lt_of_le V_de.lt (Nat.le_of_eq g1.symm))) nin0)).lt (Nat.le_of_eq g3.symm))) nin0)).lt (Nat.le_of_eq g10.symm)))) hZ5 (ow hw 77 rfl) (ow hw 51 rfl) (by decide) (by decide)) q13a q13c (g := (mkF m 65 #[.val (.int ja), .val (.int jb), .val (.int kk), .val (.int (1 : Int32)), .val (.ref b1), .val (.ref b3), .val (.ref b10), .unset] [(.ref b3), (.ref b10)])) rfl (by rw [hml]; rfl) (Steps.refl _) (argsL := [(.ref b3)]) (rest := []) (lenOf pd_11 rfl) rfl (by show 2 * 0 + _ ≤ _; exact Nat.le_of_eq rfl) (hb hby at_65) (fun _ _ => ⟨rfl, rfl, (by decide : 7 + 1 ≤ _), (by decide : 27 + 10 ≤ _)⟩)
  dsimp only [Pt.U, Pt.locs, Pt.cells, Pt.slots] at X13 l13 y13 z13 st13 hQ13
  subst l13 y13 z13
  obtain ⟨nb_13, ka_13, rfl, Nq13, gb13_0, Kp13, Fq13_0, Fq13_1, Fq13_2, Fq13_3, Fq13_4, Pq13_0⟩ := hQ13
  have N13 := Fr.app N11 Nq13
  have f18 : Fld Z T13.heap b1 "com/example/sortition/sortition/Slots" "size" "I" (.int kk) := ((((((Fq2_1.ext E3).ext E4).keep Kp5 (ninS (Nat.ne_of_lt (Nat.lt_of_lt_of_le Fq2_0.lt (Nat.le_of_eq g3.symm))) nin0)).ext E10).keep Kp11 (ninS (Nat.ne_of_lt (Nat.lt_of_lt_of_le (((Fq2_0.ext E3).ext E4).keep Kp5).lt (Nat.le_of_eq g10.symm))) nin0)).keep Kp13 (ninS (Nat.ne_of_lt (Nat.lt_of_lt_of_le (((Fq2_0.ext E3).ext E4).keep Kp5).lt (Nat.le_of_eq g10.symm))) nin0))
  have f19 : Exa Z T13.heap b1 "com/example/sortition/sortition/Slots" := ((((((Fq2_0.ext E3).ext E4).keep Kp5).ext E10).keep Kp11).keep Kp13)
  obtain ⟨cq17, kq17, q17a, q17b, q17c⟩ := isOf hZ5 rfl f19
  obtain ⟨_, _, ⟨T17, L17, k17, n17⟩, -, X17, ⟨Lc17, hQ17, l17, y17, z17⟩, st17⟩ := X13.virtualBack hx (y := (⟨"com/example/sortition/sortition/Slots", "allows", "(Ljava/util/List;)Z"⟩ : MethodName)) (z := (⟨"com/example/sortition/sortition/Slots", "allows", "(Ljava/util/List;)Z"⟩ : MethodName)) hown5 (mvT hZ5 (ow hw 104 rfl)) (mvT hZ5 (ow hw 105 rfl)) (notFace_of_selects (args := #[]) (mvT hZ5 (ow hw 107 rfl))) (mvT hZ5 (ow hw 107 rfl)) (mvT hZ5 (ow hw 106 rfl)) (by decide) (backOf (W := 0) (rmAW_f l Z a0 hw [] b1 b10 (1 : Int32) kk T13.heap n0 (Nat.le_trans (Nat.le_trans (Nat.le_trans (Nat.le_trans (Nat.le_trans (Nat.le_trans (Nat.le_trans (Nat.le_trans Z0 E1.1) Kp2.1) E3.1) E4.1) Kp5.1) E10.1) Kp11.1) Kp13.1) Fq13_0 Fq13_3 f18 hrd) hZ5 (ow hw 108 rfl) (ow hw 2 rfl) (by decide) (by decide)) q17a q17c (g := (mkF m 164 #[.val (.int ja), .val (.int jb), .val (.int kk), .val (.int (1 : Int32)), .val (.ref b1), .val (.ref b3), .val (.ref b10), .val (.int (1 : Int32))] [(.ref b10), (.ref b1)])) rfl (by rw [hml]; rfl) (Steps.refl _) (argsL := [(.ref b10)]) (rest := []) (lenOf pd_10 rfl) rfl (by show 2 * 0 + _ ≤ _; exact Nat.le_of_eq rfl) (hb hby at_164) (fun _ _ => ⟨rfl, rfl, (by decide : 8 + 0 ≤ _), (by decide : 37 + 0 ≤ _)⟩)
  dsimp only [Pt.U, Pt.locs, Pt.cells, Pt.slots] at X17 l17 y17 z17 st17 hQ17
  subst l17 y17 z17
  obtain ⟨rfl, Nq17, e17⟩ := hQ17
  have N17 := Fr.app N13 Nq17
  obtain ⟨fs, hr, hrun, hended, hRW⟩ := X17.leaveW (s := s) hS5 (by rw [e17]; exact (Nat.le_trans (Nat.le_trans (Nat.le_trans (Nat.le_refl _) E10.1) Kp11.1) Kp13.1)) (v := some (.int (1 : Int32))) (fun h => by rw [Bd.returns] at h; cases h)
  refine ⟨_, _, pre0 _ ?_, hrun, hended, _, _, rfl, ?_, hRW.1, hRW.2.1, hRW.2.2.1, hRW.2.2.2.mono (by decide) (by decide)⟩
  · show Steps p.tables e below (s₁.setTop (mkF m 0 #[.val (.int ja), .val (.int jb), .unset, .unset, .unset, .unset, .unset, .unset] [])) _
    refine stp _ ?_
    show Steps p.tables e below (s₁.setTop (mkF m 20 #[.val (.int ja), .val (.int jb), .val (.int kk), .unset, .unset, .unset, .unset, .unset] [])) _
    refine XS.iloadN X0.here hx rfl (hb hby at_20) rfl ?_
    show Steps p.tables e below (s₁.setTop (mkF m 21 #[.val (.int ja), .val (.int jb), .val (.int kk), .unset, .unset, .unset, .unset, .unset] [(.int jb)])) _
    refine XS.bipush X0.here hx rfl (hb hby at_21) ?_
    show Steps p.tables e below (s₁.setTop (mkF m 23 #[.val (.int ja), .val (.int jb), .val (.int kk), .unset, .unset, .unset, .unset, .unset] [(.int (7 : Int32)), (.int jb)])) _
    refine XS.iand X0.here hx rfl (hb hby at_23) rfl ?_
    show Steps p.tables e below (s₁.setTop (mkF m 24 #[.val (.int ja), .val (.int jb), .val (.int kk), .unset, .unset, .unset, .unset, .unset] [(.int (jb &&& (7 : Int32)))])) _
    rw [hn]
    show Steps p.tables e below (s₁.setTop (mkF m 24 #[.val (.int ja), .val (.int jb), .val (.int kk), .unset, .unset, .unset, .unset, .unset] [(.int (1 : Int32))])) _
    refine XS.istoreN X0.here hx rfl (hb hby at_24) rfl (l' := #[.val (.int ja), .val (.int jb), .val (.int kk), .val (.int (1 : Int32)), .unset, .unset, .unset, .unset]) rfl ?_
    show Steps p.tables e below (s₁.setTop (mkF m 25 #[.val (.int ja), .val (.int jb), .val (.int kk), .val (.int (1 : Int32)), .unset, .unset, .unset, .unset] [])) _
    refine st1 _ ?_
    show Steps p.tables e below (T1.setTop (mkF m 28 #[.val (.int ja), .val (.int jb), .val (.int kk), .val (.int (1 : Int32)), .unset, .unset, .unset, .unset] [(.ref b1)])) _
    refine XS.dup X1.here hx rfl (hb hby at_28) rfl rfl ?_
    show Steps p.tables e below (T1.setTop (mkF m 29 #[.val (.int ja), .val (.int jb), .val (.int kk), .val (.int (1 : Int32)), .unset, .unset, .unset, .unset] [(.ref b1), (.ref b1)])) _
    refine XS.iloadN X1.here hx rfl (hb hby at_29) rfl ?_
    show Steps p.tables e below (T1.setTop (mkF m 30 #[.val (.int ja), .val (.int jb), .val (.int kk), .val (.int (1 : Int32)), .unset, .unset, .unset, .unset] [(.int kk), (.ref b1), (.ref b1)])) _
    refine st2.trans ?_
    show Steps p.tables e below (T2.setTop (mkF m 33 #[.val (.int ja), .val (.int jb), .val (.int kk), .val (.int (1 : Int32)), .unset, .unset, .unset, .unset] [(.ref b1)])) _
    refine XS.astore X2.here hx rfl (hb hby at_33) rfl rfl (l' := #[.val (.int ja), .val (.int jb), .val (.int kk), .val (.int (1 : Int32)), .val (.ref b1), .unset, .unset, .unset]) rfl ?_
    show Steps p.tables e below (T2.setTop (mkF m 35 #[.val (.int ja), .val (.int jb), .val (.int kk), .val (.int (1 : Int32)), .val (.ref b1), .unset, .unset, .unset] [])) _
    refine st3 _ ?_
    show Steps p.tables e below (T3.setTop (mkF m 38 #[.val (.int ja), .val (.int jb), .val (.int kk), .val (.int (1 : Int32)), .val (.ref b1), .unset, .unset, .unset] [(.ref b3)])) _
    refine XS.dup X3.here hx rfl (hb hby at_38) rfl rfl ?_
    show Steps p.tables e below (T3.setTop (mkF m 39 #[.val (.int ja), .val (.int jb), .val (.int kk), .val (.int (1 : Int32)), .val (.ref b1), .unset, .unset, .unset] [(.ref b3), (.ref b3)])) _
    refine XS.iconst X3.here hx rfl (hb hby at_39) ?_
    show Steps p.tables e below (T3.setTop (mkF m 40 #[.val (.int ja), .val (.int jb), .val (.int kk), .val (.int (1 : Int32)), .val (.ref b1), .unset, .unset, .unset] [(.int (0 : Int32)), (.ref b3), (.ref b3)])) _
    refine st4 _ ?_
    show Steps p.tables e below (T4.setTop (mkF m 42 #[.val (.int ja), .val (.int jb), .val (.int kk), .val (.int (1 : Int32)), .val (.ref b1), .unset, .unset, .unset] [(.ref a4), (.int (0 : Int32)), (.ref b3), (.ref b3)])) _
    refine XS.dconst1 X4.here hx rfl (hb hby at_42) (v := 4607182418800017408) rfl ?_
    show Steps p.tables e below (T4.setTop (mkF m 43 #[.val (.int ja), .val (.int jb), .val (.int kk), .val (.int (1 : Int32)), .val (.ref b1), .unset, .unset, .unset] [(.double 4607182418800017408), (.ref a4), (.int (0 : Int32)), (.ref b3), (.ref b3)])) _
    refine st5.trans ?_
    show Steps p.tables e below (T5.setTop (mkF m 46 #[.val (.int ja), .val (.int jb), .val (.int kk), .val (.int (1 : Int32)), .val (.ref b1), .unset, .unset, .unset] [(.ref b3)])) _
    refine XS.astore X5.here hx rfl (hb hby at_46) rfl rfl (l' := #[.val (.int ja), .val (.int jb), .val (.int kk), .val (.int (1 : Int32)), .val (.ref b1), .val (.ref b3), .unset, .unset]) rfl ?_
    show Steps p.tables e below (T5.setTop (mkF m 48 #[.val (.int ja), .val (.int jb), .val (.int kk), .val (.int (1 : Int32)), .val (.ref b1), .val (.ref b3), .unset, .unset] [])) _
    refine st10 _ ?_
    show Steps p.tables e below (T10.setTop (mkF m 51 #[.val (.int ja), .val (.int jb), .val (.int kk), .val (.int (1 : Int32)), .val (.ref b1), .val (.ref b3), .unset, .unset] [(.ref b10)])) _
    refine XS.dup X10.here hx rfl (hb hby at_51) rfl rfl ?_
    show Steps p.tables e below (T10.setTop (mkF m 52 #[.val (.int ja), .val (.int jb), .val (.int kk), .val (.int (1 : Int32)), .val (.ref b1), .val (.ref b3), .unset, .unset] [(.ref b10), (.ref b10)])) _
    refine st11.trans ?_
    show Steps p.tables e below (T11.setTop (mkF m 55 #[.val (.int ja), .val (.int jb), .val (.int kk), .val (.int (1 : Int32)), .val (.ref b1), .val (.ref b3), .unset, .unset] [(.ref b10)])) _
    refine XS.astore X11.here hx rfl (hb hby at_55) rfl rfl (l' := #[.val (.int ja), .val (.int jb), .val (.int kk), .val (.int (1 : Int32)), .val (.ref b1), .val (.ref b3), .val (.ref b10), .unset]) rfl ?_
    show Steps p.tables e below (T11.setTop (mkF m 57 #[.val (.int ja), .val (.int jb), .val (.int kk), .val (.int (1 : Int32)), .val (.ref b1), .val (.ref b3), .val (.ref b10), .unset] [])) _
    refine XS.iloadN X11.here hx rfl (hb hby at_57) rfl ?_
    show Steps p.tables e below (T11.setTop (mkF m 58 #[.val (.int ja), .val (.int jb), .val (.int kk), .val (.int (1 : Int32)), .val (.ref b1), .val (.ref b3), .val (.ref b10), .unset] [(.int (1 : Int32))])) _
    refine XS.ifNo X11.here hx rfl (hb hby at_58) rfl ((if0 _ _).trans (tlt (by decide : (0 : Int32) < (1 : Int32))).2.2.2) ?_
    show Steps p.tables e below (T11.setTop (mkF m 61 #[.val (.int ja), .val (.int jb), .val (.int kk), .val (.int (1 : Int32)), .val (.ref b1), .val (.ref b3), .val (.ref b10), .unset] [])) _
    refine XS.aload X11.here hx rfl (hb hby at_61) rfl rfl ?_
    show Steps p.tables e below (T11.setTop (mkF m 63 #[.val (.int ja), .val (.int jb), .val (.int kk), .val (.int (1 : Int32)), .val (.ref b1), .val (.ref b3), .val (.ref b10), .unset] [(.ref b10)])) _
    refine XS.aload X11.here hx rfl (hb hby at_63) rfl rfl ?_
    show Steps p.tables e below (T11.setTop (mkF m 65 #[.val (.int ja), .val (.int jb), .val (.int kk), .val (.int (1 : Int32)), .val (.ref b1), .val (.ref b3), .val (.ref b10), .unset] [(.ref b3), (.ref b10)])) _
    refine st13.trans ?_
    show Steps p.tables e below (T13.setTop (mkF m 68 #[.val (.int ja), .val (.int jb), .val (.int kk), .val (.int (1 : Int32)), .val (.ref b1), .val (.ref b3), .val (.ref b10), .unset] [(.int (1 : Int32))])) _
    refine XS.pop X13.here hx rfl (hb hby at_68) rfl rfl ?_
    show Steps p.tables e below (T13.setTop (mkF m 69 #[.val (.int ja), .val (.int jb), .val (.int kk), .val (.int (1 : Int32)), .val (.ref b1), .val (.ref b3), .val (.ref b10), .unset] [])) _
    refine XS.iloadN X13.here hx rfl (hb hby at_69) rfl ?_
    show Steps p.tables e below (T13.setTop (mkF m 70 #[.val (.int ja), .val (.int jb), .val (.int kk), .val (.int (1 : Int32)), .val (.ref b1), .val (.ref b3), .val (.ref b10), .unset] [(.int (1 : Int32))])) _
    refine XS.iconst X13.here hx rfl (hb hby at_70) ?_
    show Steps p.tables e below (T13.setTop (mkF m 71 #[.val (.int ja), .val (.int jb), .val (.int kk), .val (.int (1 : Int32)), .val (.ref b1), .val (.ref b3), .val (.ref b10), .unset] [(.int (1 : Int32)), (.int (1 : Int32))])) _
    refine XS.icmpYes X13.here hx rfl (pc0 := 71) (pc' := 82) rfl (hb hby at_71) rfl (flt (by decide : ¬ ((1 : Int32) < (1 : Int32)))).2.2.2 (by decide) (by decide) ?_
    show Steps p.tables e below (T13.setTop (mkF m 82 #[.val (.int ja), .val (.int jb), .val (.int kk), .val (.int (1 : Int32)), .val (.ref b1), .val (.ref b3), .val (.ref b10), .unset] [])) _
    refine XS.iloadN X13.here hx rfl (hb hby at_82) rfl ?_
    show Steps p.tables e below (T13.setTop (mkF m 83 #[.val (.int ja), .val (.int jb), .val (.int kk), .val (.int (1 : Int32)), .val (.ref b1), .val (.ref b3), .val (.ref b10), .unset] [(.int (1 : Int32))])) _
    refine XS.iconst X13.here hx rfl (hb hby at_83) ?_
    show Steps p.tables e below (T13.setTop (mkF m 84 #[.val (.int ja), .val (.int jb), .val (.int kk), .val (.int (1 : Int32)), .val (.ref b1), .val (.ref b3), .val (.ref b10), .unset] [(.int (2 : Int32)), (.int (1 : Int32))])) _
    refine XS.icmpYes X13.here hx rfl (pc0 := 84) (pc' := 95) rfl (hb hby at_84) rfl (flt (by decide : ¬ ((2 : Int32) < (1 : Int32)))).2.2.2 (by decide) (by decide) ?_
    show Steps p.tables e below (T13.setTop (mkF m 95 #[.val (.int ja), .val (.int jb), .val (.int kk), .val (.int (1 : Int32)), .val (.ref b1), .val (.ref b3), .val (.ref b10), .unset] [])) _
    refine XS.iloadN X13.here hx rfl (hb hby at_95) rfl ?_
    show Steps p.tables e below (T13.setTop (mkF m 96 #[.val (.int ja), .val (.int jb), .val (.int kk), .val (.int (1 : Int32)), .val (.ref b1), .val (.ref b3), .val (.ref b10), .unset] [(.int (1 : Int32))])) _
    refine XS.iconst X13.here hx rfl (hb hby at_96) ?_
    show Steps p.tables e below (T13.setTop (mkF m 97 #[.val (.int ja), .val (.int jb), .val (.int kk), .val (.int (1 : Int32)), .val (.ref b1), .val (.ref b3), .val (.ref b10), .unset] [(.int (3 : Int32)), (.int (1 : Int32))])) _
    refine XS.icmpYes X13.here hx rfl (pc0 := 97) (pc' := 108) rfl (hb hby at_97) rfl (flt (by decide : ¬ ((3 : Int32) < (1 : Int32)))).2.2.2 (by decide) (by decide) ?_
    show Steps p.tables e below (T13.setTop (mkF m 108 #[.val (.int ja), .val (.int jb), .val (.int kk), .val (.int (1 : Int32)), .val (.ref b1), .val (.ref b3), .val (.ref b10), .unset] [])) _
    refine XS.iloadN X13.here hx rfl (hb hby at_108) rfl ?_
    show Steps p.tables e below (T13.setTop (mkF m 109 #[.val (.int ja), .val (.int jb), .val (.int kk), .val (.int (1 : Int32)), .val (.ref b1), .val (.ref b3), .val (.ref b10), .unset] [(.int (1 : Int32))])) _
    refine XS.iconst X13.here hx rfl (hb hby at_109) ?_
    show Steps p.tables e below (T13.setTop (mkF m 110 #[.val (.int ja), .val (.int jb), .val (.int kk), .val (.int (1 : Int32)), .val (.ref b1), .val (.ref b3), .val (.ref b10), .unset] [(.int (4 : Int32)), (.int (1 : Int32))])) _
    refine XS.icmpYes X13.here hx rfl (pc0 := 110) (pc' := 121) rfl (hb hby at_110) rfl (flt (by decide : ¬ ((4 : Int32) < (1 : Int32)))).2.2.2 (by decide) (by decide) ?_
    show Steps p.tables e below (T13.setTop (mkF m 121 #[.val (.int ja), .val (.int jb), .val (.int kk), .val (.int (1 : Int32)), .val (.ref b1), .val (.ref b3), .val (.ref b10), .unset] [])) _
    refine XS.iloadN X13.here hx rfl (hb hby at_121) rfl ?_
    show Steps p.tables e below (T13.setTop (mkF m 122 #[.val (.int ja), .val (.int jb), .val (.int kk), .val (.int (1 : Int32)), .val (.ref b1), .val (.ref b3), .val (.ref b10), .unset] [(.int (1 : Int32))])) _
    refine XS.iconst X13.here hx rfl (hb hby at_122) ?_
    show Steps p.tables e below (T13.setTop (mkF m 123 #[.val (.int ja), .val (.int jb), .val (.int kk), .val (.int (1 : Int32)), .val (.ref b1), .val (.ref b3), .val (.ref b10), .unset] [(.int (5 : Int32)), (.int (1 : Int32))])) _
    refine XS.icmpYes X13.here hx rfl (pc0 := 123) (pc' := 134) rfl (hb hby at_123) rfl (flt (by decide : ¬ ((5 : Int32) < (1 : Int32)))).2.2.2 (by decide) (by decide) ?_
    show Steps p.tables e below (T13.setTop (mkF m 134 #[.val (.int ja), .val (.int jb), .val (.int kk), .val (.int (1 : Int32)), .val (.ref b1), .val (.ref b3), .val (.ref b10), .unset] [])) _
    refine XS.iloadN X13.here hx rfl (hb hby at_134) rfl ?_
    show Steps p.tables e below (T13.setTop (mkF m 135 #[.val (.int ja), .val (.int jb), .val (.int kk), .val (.int (1 : Int32)), .val (.ref b1), .val (.ref b3), .val (.ref b10), .unset] [(.int (1 : Int32))])) _
    refine XS.bipush X13.here hx rfl (hb hby at_135) ?_
    show Steps p.tables e below (T13.setTop (mkF m 137 #[.val (.int ja), .val (.int jb), .val (.int kk), .val (.int (1 : Int32)), .val (.ref b1), .val (.ref b3), .val (.ref b10), .unset] [(.int (6 : Int32)), (.int (1 : Int32))])) _
    refine XS.icmpYes X13.here hx rfl (pc0 := 137) (pc' := 148) rfl (hb hby at_137) rfl (flt (by decide : ¬ ((6 : Int32) < (1 : Int32)))).2.2.2 (by decide) (by decide) ?_
    show Steps p.tables e below (T13.setTop (mkF m 148 #[.val (.int ja), .val (.int jb), .val (.int kk), .val (.int (1 : Int32)), .val (.ref b1), .val (.ref b3), .val (.ref b10), .unset] [])) _
    refine XS.iloadN X13.here hx rfl (hb hby at_148) rfl ?_
    show Steps p.tables e below (T13.setTop (mkF m 149 #[.val (.int ja), .val (.int jb), .val (.int kk), .val (.int (1 : Int32)), .val (.ref b1), .val (.ref b3), .val (.ref b10), .unset] [(.int (1 : Int32))])) _
    refine XS.iloadN X13.here hx rfl (hb hby at_149) rfl ?_
    show Steps p.tables e below (T13.setTop (mkF m 150 #[.val (.int ja), .val (.int jb), .val (.int kk), .val (.int (1 : Int32)), .val (.ref b1), .val (.ref b3), .val (.ref b10), .unset] [(.int kk), (.int (1 : Int32))])) _
    refine XS.icmpNo X13.here hx rfl (hb hby at_150) rfl (flt hrd).2.2.1 ?_
    show Steps p.tables e below (T13.setTop (mkF m 153 #[.val (.int ja), .val (.int jb), .val (.int kk), .val (.int (1 : Int32)), .val (.ref b1), .val (.ref b3), .val (.ref b10), .unset] [])) _
    refine XS.iconst X13.here hx rfl (hb hby at_153) ?_
    show Steps p.tables e below (T13.setTop (mkF m 154 #[.val (.int ja), .val (.int jb), .val (.int kk), .val (.int (1 : Int32)), .val (.ref b1), .val (.ref b3), .val (.ref b10), .unset] [(.int (1 : Int32))])) _
    refine XS.goto X13.here hx rfl (pc0 := 154) (pc' := 158) rfl (hb hby at_154) (by decide) (by decide) ?_
    show Steps p.tables e below (T13.setTop (mkF m 158 #[.val (.int ja), .val (.int jb), .val (.int kk), .val (.int (1 : Int32)), .val (.ref b1), .val (.ref b3), .val (.ref b10), .unset] [(.int (1 : Int32))])) _
    refine XS.istore X13.here hx rfl (hb hby at_158) rfl (l' := #[.val (.int ja), .val (.int jb), .val (.int kk), .val (.int (1 : Int32)), .val (.ref b1), .val (.ref b3), .val (.ref b10), .val (.int (1 : Int32))]) rfl ?_
    show Steps p.tables e below (T13.setTop (mkF m 160 #[.val (.int ja), .val (.int jb), .val (.int kk), .val (.int (1 : Int32)), .val (.ref b1), .val (.ref b3), .val (.ref b10), .val (.int (1 : Int32))] [])) _
    refine XS.aload X13.here hx rfl (hb hby at_160) rfl rfl ?_
    show Steps p.tables e below (T13.setTop (mkF m 162 #[.val (.int ja), .val (.int jb), .val (.int kk), .val (.int (1 : Int32)), .val (.ref b1), .val (.ref b3), .val (.ref b10), .val (.int (1 : Int32))] [(.ref b1)])) _
    refine XS.aload X13.here hx rfl (hb hby at_162) rfl rfl ?_
    show Steps p.tables e below (T13.setTop (mkF m 164 #[.val (.int ja), .val (.int jb), .val (.int kk), .val (.int (1 : Int32)), .val (.ref b1), .val (.ref b3), .val (.ref b10), .val (.int (1 : Int32))] [(.ref b10), (.ref b1)])) _
    refine st17.trans ?_
    show Steps p.tables e below (T17.setTop (mkF m 167 #[.val (.int ja), .val (.int jb), .val (.int kk), .val (.int (1 : Int32)), .val (.ref b1), .val (.ref b3), .val (.ref b10), .val (.int (1 : Int32))] [(.int (1 : Int32))])) _
    refine XS.iload X17.here hx rfl (hb hby at_167) rfl ?_
    show Steps p.tables e below (T17.setTop (mkF m 169 #[.val (.int ja), .val (.int jb), .val (.int kk), .val (.int (1 : Int32)), .val (.ref b1), .val (.ref b3), .val (.ref b10), .val (.int (1 : Int32))] [(.int (1 : Int32)), (.int (1 : Int32))])) _
    refine XS.icmpNo X17.here hx rfl (hb hby at_169) rfl (teq (rfl : (1 : Int32) = (1 : Int32))).2 ?_
    show Steps p.tables e below (T17.setTop (mkF m 172 #[.val (.int ja), .val (.int jb), .val (.int kk), .val (.int (1 : Int32)), .val (.ref b1), .val (.ref b3), .val (.ref b10), .val (.int (1 : Int32))] [])) _
    refine XS.iconst X17.here hx rfl (hb hby at_172) ?_
    show Steps p.tables e below (T17.setTop (mkF m 173 #[.val (.int ja), .val (.int jb), .val (.int kk), .val (.int (1 : Int32)), .val (.ref b1), .val (.ref b3), .val (.ref b10), .val (.int (1 : Int32))] [(.int (1 : Int32))])) _
    refine XS.goto X17.here hx rfl (pc0 := 173) (pc' := 177) rfl (hb hby at_173) (by decide) (by decide) ?_
    show Steps p.tables e below (T17.setTop (mkF m 177 #[.val (.int ja), .val (.int jb), .val (.int kk), .val (.int (1 : Int32)), .val (.ref b1), .val (.ref b3), .val (.ref b10), .val (.int (1 : Int32))] [(.int (1 : Int32))])) _
    exact retN X17 hx (t := .boolean) Bd.returns (by simp) (hb hby at_177) hr
  · show Q_rm0_1f Z ja jb kk de kd h0 n0 _ T17.heap _
    rw [e17]
    exact ⟨rfl, N17⟩
def Q_rm0_2t (Z : State) (ja : Int32) (jb : Int32) (kk : Int32) (de : Addr) (kd : ClassId) (h0 : Heap) (n0 : Nat) (v : Option Value) (h : Heap) (L : List Loc) : Prop := v = some (.int (1 : Int32)) ∧ Fr n0 L
theorem ef_rm0_2t (m : MethodId) (ja : Int32) (jb : Int32) : entryFrame m #[(.int ja), (.int jb)] maxLocals = mkF m 0 #[.val (.int ja), .val (.int jb), .unset, .unset, .unset, .unset, .unset, .unset] [] := by first | (simp [entryFrame, mkF, argsToLocals, Value.category, maxLocals]; done) | rfl
set_option maxRecDepth 65536 in
set_option maxHeartbeats 40000000 in
theorem rm0_2t (l : Launch) (Z : State) (a0 : Array Value) (hw : ∀ d ∈ tables_1, d.before a0 Z = true) (ws : List Jvm.Cond) (ja : Int32) (jb : Int32) (kk : Int32) (de : Addr) (kd : ClassId) (h0 : Heap) (n0 : Nat) (Z0 : n0 ≤ h0.size) (hwS : ∀ a ∈ Bundle.stringAtoms, a.before a0 Z = true) (hn0 : n0 = h0.size) (hcn : Jvm.Lit.constHeld Z "com/example/sortition/sortition/SlotsAllowsPinLaw" 15) (hcw : Jvm.Lit.compactW.before a0 Z = true) (S_DE : Sta Z h0 "java/util/ArrayList" "DEFAULTCAPACITY_EMPTY_ELEMENTDATA" "[Ljava/lang/Object;" (.ref de)) (V_de : Arv Z h0 de kd (.object "java/lang/Object") (0 : Int32) [] .null) (hkk : (own_k ja jb) = kk) (gkk : ¬ (kk < (0 : Int32))) (hn : (jb &&& (7 : Int32)) = (2 : Int32)) (hrd : kk < (2 : Int32)) :
    MetFree l x (head1 (Jvm.Cond.code x code maxLocals ret :: ws) room_1) (fun a U => a = #[(.int ja), (.int jb)] ∧ Z.Warmed39 U.vm ∧ U.heap = h0 ∧ U.vm.interned = Z.vm.interned ∧ (∀ (b : Addr) (cl : Cell), Z.heap[b]? = some cl → U.heap[b]? = some cl)) (fun _ _ _ _ _ => True) (fun _ U o U' => ∃ v L, o = .returned v ∧ Q_rm0_2t Z ja jb kk de kd h0 n0 v U'.heap L ∧ ReturnedEndW U o U' L room_1.cells room_1.slots) := by
  refine MetFree.of_bodySF (plainFor_of_name pn_8) hisR ?_
  intro p e s m args below meth c s₁ Bd hml0 hP hK
  obtain ⟨rfl, hZ, hh, hI0, hK0⟩ := hP
  have hx := Bd.exec
  have hby := Bd.bytes
  have hml : c.maxLocals = 8 := hml0
  have hown : s.vm.findClass "com/example/sortition/sortition/SlotsAllowsPinLaw" = some m.cls := findClass_of_methodNamed Bd.named
  have hnm := (name_of_methodNamed Bd.named Bd.method).1
  have X0 : Stand p l e room_1 s m #[(.int ja), (.int jb)] below meth c s₁ [] 0 0 := Stand.of_body Bd
  have e0 : s₁.heap = h0 := by rw [← hh, Bd.state]; rfl
  have N0 := Fr.nil n0
  have hS0 := (State.WarmedH.refl s).since 0
  have pre0 : ∀ t, Steps p.tables e below (s₁.setTop (mkF m 0 #[.val (.int ja), .val (.int jb), .unset, .unset, .unset, .unset, .unset, .unset] [])) t → Steps p.tables e below (s₁.setTop (entryFrame m #[(.int ja), (.int jb)] maxLocals)) t := fun t k => castTop (ef_rm0_2t m ja jb) k
  have stp := own_pre ja jb X0 hx hZ hw hby hown
  rw [hkk] at stp
  obtain ⟨T1, h1, X1, e1, E1, A1, D1, -, st1⟩ := newO X0 hx hZ hown (ow hw 0 rfl) (ow hw 1 rfl) (ow hw 2 rfl) e0 (g := (mkF m 25 #[.val (.int ja), .val (.int jb), .val (.int kk), .val (.int (2 : Int32)), .unset, .unset, .unset, .unset] [])) rfl (hb hby at_25) (by decide) (by decide)
  obtain ⟨b1, g1⟩ : ∃ z, z = h0.size := ⟨_, rfl⟩
  rw [← g1] at A1 D1 st1
  have F1_3 : Fld Z h1 b1 "com/example/sortition/sortition/Slots" "size" "I" (.int (0 : Int32)) := D1 (Or.inr (ow hw 15 rfl)) (ty := .int) (by decide)
  obtain ⟨_, _, ⟨T2, L2, k2, n2⟩, -, X2, ⟨Lc2, hQ2, l2, y2, z2⟩, st2⟩ := X1.specialBack hx (y := (⟨"com/example/sortition/sortition/Slots", "<init>", "(I)V"⟩ : MethodName)) rfl hown (mvT hZ (ow hw 3 rfl)) (mvT hZ (ow hw 4 rfl)) (mvT hZ (ow hw 5 rfl)) (by decide) (backOf (W := 1) (rmSl l Z a0 hw [] b1 kk (.int (0 : Int32)) h1 n0 (Nat.le_trans Z0 E1.1) gkk F1_3 A1 (Nat.le_trans Z0 (Nat.le_of_eq g1.symm))) hZ (ow hw 5 rfl) (ow hw 2 rfl) (by decide) (by decide)) (g := (mkF m 30 #[.val (.int ja), .val (.int jb), .val (.int kk), .val (.int (2 : Int32)), .unset, .unset, .unset, .unset] [(.int kk), (.ref b1), (.ref b1)])) rfl (by rw [hml]; rfl) (Steps.refl _) (a := b1) (argsL := [(.int kk)]) (rest := [(.ref b1)]) (lenOf pd_8 rfl) rfl (by show 2 * 0 + _ ≤ _; exact Nat.le_of_eq rfl) (hb hby at_30) (fun _ _ => ⟨rfl, e1, (by decide : 1 + 0 ≤ _), (by decide : 1 + 0 ≤ _)⟩)
  dsimp only [Pt.U, Pt.locs, Pt.cells, Pt.slots] at X2 l2 y2 z2 st2 hQ2
  subst l2 y2 z2
  obtain ⟨rfl, Nq2, Kp2, Fq2_0, Fq2_1⟩ := hQ2
  have N2 := Fr.app N0 Nq2
  obtain ⟨T3, h3, X3, e3, E3, A3, D3, -, st3⟩ := newO X2 hx hZ hown (ow hw 16 rfl) (ow hw 17 rfl) (ow hw 18 rfl) rfl (g := (mkF m 35 #[.val (.int ja), .val (.int jb), .val (.int kk), .val (.int (2 : Int32)), .val (.ref b1), .unset, .unset, .unset] [])) rfl (hb hby at_35) (by decide) (by decide)
  obtain ⟨b3, g3⟩ : ∃ z, z = T2.heap.size := ⟨_, rfl⟩
  rw [← g3] at A3 D3 st3
  have F3_5 : Fld Z h3 b3 "com/example/sortition/sortition/Element" "index" "I" (.int (0 : Int32)) := D3 (Or.inr (ow hw 44 rfl)) (ty := .int) (by decide)
  have F3_6 : Fld Z h3 b3 "com/example/sortition/sortition/Element" "id" "Ljava/lang/String;" .null := D3 (Or.inr (ow hw 46 rfl)) (ty := (.object "java/lang/String")) (by decide)
  have F3_7 : Fld Z h3 b3 "com/example/sortition/sortition/Element" "value" "D" (.double 0) := D3 (Or.inr (ow hw 48 rfl)) (ty := .double) (by decide)
  obtain ⟨a4, T4, h4, k4, b4, kc4, X4, e4, E4, hS4, hk4, hZ4, hown4, A4, -, Fv4, V4, -, -, -, st4⟩ := ldcSV (s := s) (vm0 := s.vm) X3 hx hZ hown (ow hw 19 rfl) hwS e3 hS0 (Nat.le_trans (Nat.le_trans (Nat.le_trans (Nat.zero_le _) E1.1) Kp2.1) E3.1) (by rw [hh, ← hn0]; exact N2) hK0 (⟨#[], by simpa using hI0, fun q hq => by simp at hq⟩ : IB Z s.vm []) (by simp) hcn hcw (vs := [(.int (120 : Int32))]) (z := (1 : Int32)) ⟨by decide, by decide⟩ (by decide) rfl (g := (mkF m 40 #[.val (.int ja), .val (.int jb), .val (.int kk), .val (.int (2 : Int32)), .val (.ref b1), .unset, .unset, .unset] [(.int (0 : Int32)), (.ref b3), (.ref b3)])) rfl (hb hby at_40) (n := 4) (by decide) (by decide) (by decide) (by decide)
  have f6 : Fld Z h4 b3 "com/example/sortition/sortition/Element" "index" "I" (.int (0 : Int32)) := (F3_5.ext E4)
  have f7 : Exa Z h4 b3 "com/example/sortition/sortition/Element" := (A3.ext E4)
  have f8 : Fld Z h4 b3 "com/example/sortition/sortition/Element" "id" "Ljava/lang/String;" .null := (F3_6.ext E4)
  have f9 : Fld Z h4 b3 "com/example/sortition/sortition/Element" "value" "D" (.double 0) := (F3_7.ext E4)
  obtain ⟨_, _, ⟨T5, L5, k5, n5⟩, -, X5, hSq5, hgq5, ⟨Lc5, hQ5, l5, y5, z5⟩, st5⟩ := X4.specialBackS hx (y := (⟨"com/example/sortition/sortition/Element", "<init>", "(ILjava/lang/String;D)V"⟩ : MethodName)) rfl hown4 (mvT hZ4 (ow hw 27 rfl)) (mvT hZ4 (ow hw 28 rfl)) (mvT hZ4 (ow hw 29 rfl)) (by decide) (backOfS (W := 1) (rmEI l Z a0 hw [] b3 (0 : Int32) a4 4607182418800017408 b4 kc4 [(.int (120 : Int32))] (.int (0 : Int32)) .null (.double 0) h4 n0 (Nat.le_trans (Nat.le_trans (Nat.le_trans (Nat.le_trans Z0 E1.1) Kp2.1) E3.1) E4.1) hwS A4 Fv4 V4 (by first | assumption | decide) (by decide +kernel) (by decide +kernel) own_nn1 f6 f7 (Nat.le_trans (Nat.le_trans (Nat.le_trans Z0 E1.1) Kp2.1) (Nat.le_of_eq g3.symm)) f8 f9) hZ4 (ow hw 29 rfl) (ow hw 18 rfl) (by decide) (by decide)) (g := (mkF m 43 #[.val (.int ja), .val (.int jb), .val (.int kk), .val (.int (2 : Int32)), .val (.ref b1), .unset, .unset, .unset] [(.double 4607182418800017408), (.ref a4), (.int (0 : Int32)), (.ref b3), (.ref b3)])) rfl (by rw [hml]; rfl) (Steps.refl _) (a := b3) (argsL := [(.int (0 : Int32)), (.ref a4), (.double 4607182418800017408)]) (rest := [(.ref b3)]) (lenOf pd_9 rfl) rfl (by show 2 * 0 + _ ≤ _; exact Nat.le_of_eq rfl) (hb hby at_43) (fun _ _ => ⟨rfl, e4, (by decide : 4 + 2 ≤ _), (by decide : 12 + 12 ≤ _)⟩)
  dsimp only [Pt.U, Pt.locs, Pt.cells, Pt.slots] at X5 l5 y5 z5 st5 hQ5 hSq5 hgq5
  subst l5 y5 z5
  obtain ⟨X5, hS5, hZ5, hown5⟩ := rebS (s := s) (vm0 := T4.vm) hS4 (by rw [e4]; exact hk4) X5 hSq5 hgq5 hZ4 hown4
  obtain ⟨rfl, Nq5, Kp5, Fq5_0, Fq5_1, Fq5_2⟩ := hQ5
  have N5 := Fr.app N2 Nq5
  obtain ⟨T10, h10, X10, e10, E10, A10, D10, -, st10⟩ := newO X5 hx hZ5 hown5 (ow hw 49 rfl) (ow hw 50 rfl) (ow hw 51 rfl) rfl (g := (mkF m 48 #[.val (.int ja), .val (.int jb), .val (.int kk), .val (.int (2 : Int32)), .val (.ref b1), .val (.ref b3), .unset, .unset] [])) rfl (hb hby at_48) (by decide) (by decide)
  obtain ⟨b10, g10⟩ : ∃ z, z = T5.heap.size := ⟨_, rfl⟩
  rw [← g10] at A10 D10 st10
  have F10_12 : Fld Z h10 b10 "java/util/AbstractList" "modCount" "I" (.int (0 : Int32)) := D10 (Or.inl (ow hw 69 rfl)) (ty := .int) (by decide)
  have F10_13 : Fld Z h10 b10 "java/util/ArrayList" "elementData" "[Ljava/lang/Object;" .null := D10 (Or.inl (ow hw 72 rfl)) (ty := (.array (.object "java/lang/Object"))) (by decide)
  have F10_14 : Fld Z h10 b10 "java/util/ArrayList" "size" "I" (.int (0 : Int32)) := D10 (Or.inl (ow hw 81 rfl)) (ty := .int) (by decide)
  have f12 : Sta Z h10 "java/util/ArrayList" "DEFAULTCAPACITY_EMPTY_ELEMENTDATA" "[Ljava/lang/Object;" (.ref de) := ((Sta_keep (((Sta_keep (S_DE.ext E1) Kp2 (nsS A1.nostat ns0)).ext E3).ext E4) Kp5 (nsS f7.nostat ns0)).ext E10)
  obtain ⟨_, _, ⟨T11, L11, k11, n11⟩, -, X11, ⟨Lc11, hQ11, l11, y11, z11⟩, st11⟩ := X10.specialBack hx (y := (⟨"java/util/ArrayList", "<init>", "()V"⟩ : MethodName)) rfl hown5 (mvT hZ5 (ow hw 52 rfl)) (mvT hZ5 (ow hw 53 rfl)) (mvT hZ5 (ow hw 54 rfl)) (by decide) (backOf (W := 1) (rmAL l Z a0 hw [] b10 de (.int (0 : Int32)) .null h10 n0 (Nat.le_trans (Nat.le_trans (Nat.le_trans (Nat.le_trans (Nat.le_trans (Nat.le_trans Z0 E1.1) Kp2.1) E3.1) E4.1) Kp5.1) E10.1) A10 F10_12 F10_13 f12 F10_14 (Nat.le_trans (Nat.le_trans (Nat.le_trans (Nat.le_trans (Nat.le_trans (Nat.le_trans Z0 E1.1) Kp2.1) E3.1) E4.1) Kp5.1) (Nat.le_of_eq g10.symm))) hZ5 (ow hw 54 rfl) (ow hw 51 rfl) (by decide) (by decide)) (g := (mkF m 52 #[.val (.int ja), .val (.int jb), .val (.int kk), .val (.int (2 : Int32)), .val (.ref b1), .val (.ref b3), .unset, .unset] [(.ref b10), (.ref b10)])) rfl (by rw [hml]; rfl) (Steps.refl _) (a := b10) (argsL := []) (rest := [(.ref b10)]) (lenOf pd_0 rfl) rfl (by show 2 * 0 + _ ≤ _; exact Nat.le_of_eq rfl) (hb hby at_52) (fun _ _ => ⟨rfl, e10, (by decide : 7 + 0 ≤ _), (by decide : 27 + 0 ≤ _)⟩)
  dsimp only [Pt.U, Pt.locs, Pt.cells, Pt.slots] at X11 l11 y11 z11 st11 hQ11
  subst l11 y11 z11
  obtain ⟨rfl, Nq11, Kp11, Fq11_0, Fq11_1, Fq11_2, Fq11_3⟩ := hQ11
  have N11 := Fr.app N5 Nq11
  have f14 : Arv Z T11.heap de kd (.object "java/lang/Object") (0 : Int32) [] .null := (((((((V_de.ext E1).keep Kp2 (ninS (Nat.ne_of_lt (Nat.lt_of_lt_of_le V_de.lt (Nat.le_of_eq g1.symm))) nin0)).ext E3).ext E4).keep Kp5 (ninS (Nat.ne_of_lt (Nat.lt_of_lt_of_le ((V_de.ext E1).keep Kp2 (ninS (Nat.ne_of_lt (Nat.lt_of_lt_of_le V_de.lt (Nat.le_of_eq g1.symm))) nin0)).lt (Nat.le_of_eq g3.symm))) nin0)).ext E10).keep Kp11 (ninS (Nat.ne_of_lt (Nat.lt_of_lt_of_le (((((V_de.ext E1).keep Kp2 (ninS (Nat.ne_of_lt (Nat.lt_of_lt_of_le V_de.lt (Nat.le_of_eq g1.symm))) nin0)).ext E3).ext E4).keep Kp5 (ninS (Nat.ne_of_lt (Nat.lt_of_lt_of_le ((V_de.ext E1).keep Kp2 (ninS (Nat.ne_of_lt (Nat.lt_of_lt_of_le V_de.lt (Nat.le_of_eq g1.symm))) nin0)).lt (Nat.le_of_eq g3.symm))) nin0)).lt (Nat.le_of_eq g10.symm))) nin0))
  have f15 : Sta Z T11.heap "java/util/ArrayList" "DEFAULTCAPACITY_EMPTY_ELEMENTDATA" "[Ljava/lang/Object;" (.ref de) := (Sta_keep f12 Kp11 (nsS A10.nostat ns0))
  have f16 : Exa Z T11.heap b3 "com/example/sortition/sortition/Element" := ((Fq5_0.ext E10).keep Kp11)
  obtain ⟨cq13, kq13, q13a, q13b, q13c⟩ := isOf hZ5 rfl Fq11_0
  obtain ⟨_, _, ⟨T13, L13, k13, n13⟩, -, X13, ⟨Lc13, hQ13, l13, y13, z13⟩, st13⟩ := X11.virtualBack hx (y := (⟨"java/util/ArrayList", "add", "(Ljava/lang/Object;)Z"⟩ : MethodName)) (z := (⟨"java/util/ArrayList", "add", "(Ljava/lang/Object;)Z"⟩ : MethodName)) hown5 (mvT hZ5 (ow hw 73 rfl)) (mvT hZ5 (ow hw 74 rfl)) (notFace_of_selects (args := #[]) (mvT hZ5 (ow hw 76 rfl))) (mvT hZ5 (ow hw 76 rfl)) (mvT hZ5 (ow hw 75 rfl)) (by decide) (backOf (W := 0) (rmA0 l Z a0 hw [] b10 b3 de kd (0 : Int32) T11.heap n0 (Nat.le_trans (Nat.le_trans (Nat.le_trans (Nat.le_trans (Nat.le_trans (Nat.le_trans (Nat.le_trans Z0 E1.1) Kp2.1) E3.1) E4.1) Kp5.1) E10.1) Kp11.1) Fq11_1 Fq11_0 Fq11_2 Fq11_3 f14 f15 f16 (Nat.le_trans (Nat.le_trans (Nat.le_trans (Nat.le_trans (Nat.le_trans (Nat.le_trans Z0 E1.1) Kp2.1) E3.1) E4.1) Kp5.1) (Nat.le_of_eq g10.symm)) (Nat.ne_of_lt (Nat.lt_of_lt_of_le (((((V_de.ext E1).keep Kp2 (ninS (Nat.ne_of_lt (Nat.lt_of_lt_of_le V_de.lt (Nat.le_of_eq g1.symm))) nin0)).ext E3).ext E4).keep Kp5 (ninS (Nat.ne_of_lt (Nat.lt_of_lt_of_le ((V_de.ext E1).keep Kp2 (ninS (Nat.ne_of_lt (Nat.lt_of_lt_of_le V_de.lt (Nat.le_of_eq g1.symm))) nin0)).lt (Nat.le_of_eq g3.symm))) nin0)).lt (Nat.le_of_eq g10.symm)))) hZ5 (ow hw 77 rfl) (ow hw 51 rfl) (by decide) (by decide)) q13a q13c (g := (mkF m 65 #[.val (.int ja), .val (.int jb), .val (.int kk), .val (.int (2 : Int32)), .val (.ref b1), .val (.ref b3), .val (.ref b10), .unset] [(.ref b3), (.ref b10)])) rfl (by rw [hml]; rfl) (Steps.refl _) (argsL := [(.ref b3)]) (rest := []) (lenOf pd_11 rfl) rfl (by show 2 * 0 + _ ≤ _; exact Nat.le_of_eq rfl) (hb hby at_65) (fun _ _ => ⟨rfl, rfl, (by decide : 7 + 1 ≤ _), (by decide : 27 + 10 ≤ _)⟩)
  dsimp only [Pt.U, Pt.locs, Pt.cells, Pt.slots] at X13 l13 y13 z13 st13 hQ13
  subst l13 y13 z13
  obtain ⟨nb_13, ka_13, rfl, Nq13, gb13_0, Kp13, Fq13_0, Fq13_1, Fq13_2, Fq13_3, Fq13_4, Pq13_0⟩ := hQ13
  have N13 := Fr.app N11 Nq13
  have f18 : Exa Z T13.heap b3 "com/example/sortition/sortition/Element" := (f16.keep Kp13)
  obtain ⟨cq17, kq17, q17a, q17b, q17c⟩ := isOf hZ5 rfl Fq13_0
  obtain ⟨_, _, ⟨T17, L17, k17, n17⟩, -, X17, ⟨Lc17, hQ17, l17, y17, z17⟩, st17⟩ := X13.virtualBack hx (y := (⟨"java/util/ArrayList", "add", "(Ljava/lang/Object;)Z"⟩ : MethodName)) (z := (⟨"java/util/ArrayList", "add", "(Ljava/lang/Object;)Z"⟩ : MethodName)) hown5 (mvT hZ5 (ow hw 73 rfl)) (mvT hZ5 (ow hw 74 rfl)) (notFace_of_selects (args := #[]) (mvT hZ5 (ow hw 76 rfl))) (mvT hZ5 (ow hw 76 rfl)) (mvT hZ5 (ow hw 75 rfl)) (by decide) (backOf (W := 0) (rmA1 l Z a0 hw [] b10 b3 nb_13 ka_13 ((0 : Int32) + (1 : Int32)) T13.heap n0 (Nat.le_trans (Nat.le_trans (Nat.le_trans (Nat.le_trans (Nat.le_trans (Nat.le_trans (Nat.le_trans (Nat.le_trans Z0 E1.1) Kp2.1) E3.1) E4.1) Kp5.1) E10.1) Kp11.1) Kp13.1) Fq13_1 Fq13_0 Fq13_2 Fq13_3 Fq13_4 Pq13_0 f18 (Nat.le_trans (Nat.le_trans (Nat.le_trans (Nat.le_trans (Nat.le_trans (Nat.le_trans Z0 E1.1) Kp2.1) E3.1) E4.1) Kp5.1) (Nat.le_of_eq g10.symm)) (Ne.symm (Nat.ne_of_lt (Nat.lt_of_lt_of_le Fq11_0.lt gb13_0))) (Nat.le_trans (Nat.le_trans (Nat.le_trans (Nat.le_trans (Nat.le_trans (Nat.le_trans (Nat.le_trans (Nat.le_trans Z0 E1.1) Kp2.1) E3.1) E4.1) Kp5.1) E10.1) Kp11.1) gb13_0)) hZ5 (ow hw 77 rfl) (ow hw 51 rfl) (by decide) (by decide)) q17a q17c (g := (mkF m 78 #[.val (.int ja), .val (.int jb), .val (.int kk), .val (.int (2 : Int32)), .val (.ref b1), .val (.ref b3), .val (.ref b10), .unset] [(.ref b3), (.ref b10)])) rfl (by rw [hml]; rfl) (Steps.refl _) (argsL := [(.ref b3)]) (rest := []) (lenOf pd_11 rfl) rfl (by show 2 * 0 + _ ≤ _; exact Nat.le_of_eq rfl) (hb hby at_78) (fun _ _ => ⟨rfl, rfl, (by decide : 8 + 0 ≤ _), (by decide : 37 + 0 ≤ _)⟩)
  dsimp only [Pt.U, Pt.locs, Pt.cells, Pt.slots] at X17 l17 y17 z17 st17 hQ17
  subst l17 y17 z17
  obtain ⟨rfl, Nq17, Kp17, Fq17_0, Fq17_1, Fq17_2, Fq17_3, Fq17_4⟩ := hQ17
  have N17 := Fr.app N13 Nq17
  have f20 : Fld Z T17.heap b1 "com/example/sortition/sortition/Slots" "size" "I" (.int kk) := (((((((Fq2_1.ext E3).ext E4).keep Kp5 (ninS (Nat.ne_of_lt (Nat.lt_of_lt_of_le Fq2_0.lt (Nat.le_of_eq g3.symm))) nin0)).ext E10).keep Kp11 (ninS (Nat.ne_of_lt (Nat.lt_of_lt_of_le (((Fq2_0.ext E3).ext E4).keep Kp5).lt (Nat.le_of_eq g10.symm))) nin0)).keep Kp13 (ninS (Nat.ne_of_lt (Nat.lt_of_lt_of_le (((Fq2_0.ext E3).ext E4).keep Kp5).lt (Nat.le_of_eq g10.symm))) nin0)).keep Kp17 (ninS (Nat.ne_of_lt (Nat.lt_of_lt_of_le (((Fq2_0.ext E3).ext E4).keep Kp5).lt (Nat.le_of_eq g10.symm))) (ninS (Nat.ne_of_lt (Nat.lt_of_lt_of_le (((((Fq2_0.ext E3).ext E4).keep Kp5).ext E10).keep Kp11).lt gb13_0)) nin0)))
  have f21 : Exa Z T17.heap b1 "com/example/sortition/sortition/Slots" := (((((((Fq2_0.ext E3).ext E4).keep Kp5).ext E10).keep Kp11).keep Kp13).keep Kp17)
  obtain ⟨cq19, kq19, q19a, q19b, q19c⟩ := isOf hZ5 rfl f21
  obtain ⟨_, _, ⟨T19, L19, k19, n19⟩, -, X19, ⟨Lc19, hQ19, l19, y19, z19⟩, st19⟩ := X17.virtualBack hx (y := (⟨"com/example/sortition/sortition/Slots", "allows", "(Ljava/util/List;)Z"⟩ : MethodName)) (z := (⟨"com/example/sortition/sortition/Slots", "allows", "(Ljava/util/List;)Z"⟩ : MethodName)) hown5 (mvT hZ5 (ow hw 104 rfl)) (mvT hZ5 (ow hw 105 rfl)) (notFace_of_selects (args := #[]) (mvT hZ5 (ow hw 107 rfl))) (mvT hZ5 (ow hw 107 rfl)) (mvT hZ5 (ow hw 106 rfl)) (by decide) (backOf (W := 0) (rmAW_t l Z a0 hw [] b1 b10 (2 : Int32) kk T17.heap n0 (Nat.le_trans (Nat.le_trans (Nat.le_trans (Nat.le_trans (Nat.le_trans (Nat.le_trans (Nat.le_trans (Nat.le_trans (Nat.le_trans Z0 E1.1) Kp2.1) E3.1) E4.1) Kp5.1) E10.1) Kp11.1) Kp13.1) Kp17.1) Fq17_0 Fq17_3 f20 hrd) hZ5 (ow hw 108 rfl) (ow hw 2 rfl) (by decide) (by decide)) q19a q19c (g := (mkF m 164 #[.val (.int ja), .val (.int jb), .val (.int kk), .val (.int (2 : Int32)), .val (.ref b1), .val (.ref b3), .val (.ref b10), .val (.int (0 : Int32))] [(.ref b10), (.ref b1)])) rfl (by rw [hml]; rfl) (Steps.refl _) (argsL := [(.ref b10)]) (rest := []) (lenOf pd_10 rfl) rfl (by show 2 * 0 + _ ≤ _; exact Nat.le_of_eq rfl) (hb hby at_164) (fun _ _ => ⟨rfl, rfl, (by decide : 8 + 0 ≤ _), (by decide : 37 + 0 ≤ _)⟩)
  dsimp only [Pt.U, Pt.locs, Pt.cells, Pt.slots] at X19 l19 y19 z19 st19 hQ19
  subst l19 y19 z19
  obtain ⟨rfl, Nq19, e19⟩ := hQ19
  have N19 := Fr.app N17 Nq19
  obtain ⟨fs, hr, hrun, hended, hRW⟩ := X19.leaveW (s := s) hS5 (by rw [e19]; exact (Nat.le_trans (Nat.le_trans (Nat.le_trans (Nat.le_trans (Nat.le_refl _) E10.1) Kp11.1) Kp13.1) Kp17.1)) (v := some (.int (1 : Int32))) (fun h => by rw [Bd.returns] at h; cases h)
  refine ⟨_, _, pre0 _ ?_, hrun, hended, _, _, rfl, ?_, hRW.1, hRW.2.1, hRW.2.2.1, hRW.2.2.2.mono (by decide) (by decide)⟩
  · show Steps p.tables e below (s₁.setTop (mkF m 0 #[.val (.int ja), .val (.int jb), .unset, .unset, .unset, .unset, .unset, .unset] [])) _
    refine stp _ ?_
    show Steps p.tables e below (s₁.setTop (mkF m 20 #[.val (.int ja), .val (.int jb), .val (.int kk), .unset, .unset, .unset, .unset, .unset] [])) _
    refine XS.iloadN X0.here hx rfl (hb hby at_20) rfl ?_
    show Steps p.tables e below (s₁.setTop (mkF m 21 #[.val (.int ja), .val (.int jb), .val (.int kk), .unset, .unset, .unset, .unset, .unset] [(.int jb)])) _
    refine XS.bipush X0.here hx rfl (hb hby at_21) ?_
    show Steps p.tables e below (s₁.setTop (mkF m 23 #[.val (.int ja), .val (.int jb), .val (.int kk), .unset, .unset, .unset, .unset, .unset] [(.int (7 : Int32)), (.int jb)])) _
    refine XS.iand X0.here hx rfl (hb hby at_23) rfl ?_
    show Steps p.tables e below (s₁.setTop (mkF m 24 #[.val (.int ja), .val (.int jb), .val (.int kk), .unset, .unset, .unset, .unset, .unset] [(.int (jb &&& (7 : Int32)))])) _
    rw [hn]
    show Steps p.tables e below (s₁.setTop (mkF m 24 #[.val (.int ja), .val (.int jb), .val (.int kk), .unset, .unset, .unset, .unset, .unset] [(.int (2 : Int32))])) _
    refine XS.istoreN X0.here hx rfl (hb hby at_24) rfl (l' := #[.val (.int ja), .val (.int jb), .val (.int kk), .val (.int (2 : Int32)), .unset, .unset, .unset, .unset]) rfl ?_
    show Steps p.tables e below (s₁.setTop (mkF m 25 #[.val (.int ja), .val (.int jb), .val (.int kk), .val (.int (2 : Int32)), .unset, .unset, .unset, .unset] [])) _
    refine st1 _ ?_
    show Steps p.tables e below (T1.setTop (mkF m 28 #[.val (.int ja), .val (.int jb), .val (.int kk), .val (.int (2 : Int32)), .unset, .unset, .unset, .unset] [(.ref b1)])) _
    refine XS.dup X1.here hx rfl (hb hby at_28) rfl rfl ?_
    show Steps p.tables e below (T1.setTop (mkF m 29 #[.val (.int ja), .val (.int jb), .val (.int kk), .val (.int (2 : Int32)), .unset, .unset, .unset, .unset] [(.ref b1), (.ref b1)])) _
    refine XS.iloadN X1.here hx rfl (hb hby at_29) rfl ?_
    show Steps p.tables e below (T1.setTop (mkF m 30 #[.val (.int ja), .val (.int jb), .val (.int kk), .val (.int (2 : Int32)), .unset, .unset, .unset, .unset] [(.int kk), (.ref b1), (.ref b1)])) _
    refine st2.trans ?_
    show Steps p.tables e below (T2.setTop (mkF m 33 #[.val (.int ja), .val (.int jb), .val (.int kk), .val (.int (2 : Int32)), .unset, .unset, .unset, .unset] [(.ref b1)])) _
    refine XS.astore X2.here hx rfl (hb hby at_33) rfl rfl (l' := #[.val (.int ja), .val (.int jb), .val (.int kk), .val (.int (2 : Int32)), .val (.ref b1), .unset, .unset, .unset]) rfl ?_
    show Steps p.tables e below (T2.setTop (mkF m 35 #[.val (.int ja), .val (.int jb), .val (.int kk), .val (.int (2 : Int32)), .val (.ref b1), .unset, .unset, .unset] [])) _
    refine st3 _ ?_
    show Steps p.tables e below (T3.setTop (mkF m 38 #[.val (.int ja), .val (.int jb), .val (.int kk), .val (.int (2 : Int32)), .val (.ref b1), .unset, .unset, .unset] [(.ref b3)])) _
    refine XS.dup X3.here hx rfl (hb hby at_38) rfl rfl ?_
    show Steps p.tables e below (T3.setTop (mkF m 39 #[.val (.int ja), .val (.int jb), .val (.int kk), .val (.int (2 : Int32)), .val (.ref b1), .unset, .unset, .unset] [(.ref b3), (.ref b3)])) _
    refine XS.iconst X3.here hx rfl (hb hby at_39) ?_
    show Steps p.tables e below (T3.setTop (mkF m 40 #[.val (.int ja), .val (.int jb), .val (.int kk), .val (.int (2 : Int32)), .val (.ref b1), .unset, .unset, .unset] [(.int (0 : Int32)), (.ref b3), (.ref b3)])) _
    refine st4 _ ?_
    show Steps p.tables e below (T4.setTop (mkF m 42 #[.val (.int ja), .val (.int jb), .val (.int kk), .val (.int (2 : Int32)), .val (.ref b1), .unset, .unset, .unset] [(.ref a4), (.int (0 : Int32)), (.ref b3), (.ref b3)])) _
    refine XS.dconst1 X4.here hx rfl (hb hby at_42) (v := 4607182418800017408) rfl ?_
    show Steps p.tables e below (T4.setTop (mkF m 43 #[.val (.int ja), .val (.int jb), .val (.int kk), .val (.int (2 : Int32)), .val (.ref b1), .unset, .unset, .unset] [(.double 4607182418800017408), (.ref a4), (.int (0 : Int32)), (.ref b3), (.ref b3)])) _
    refine st5.trans ?_
    show Steps p.tables e below (T5.setTop (mkF m 46 #[.val (.int ja), .val (.int jb), .val (.int kk), .val (.int (2 : Int32)), .val (.ref b1), .unset, .unset, .unset] [(.ref b3)])) _
    refine XS.astore X5.here hx rfl (hb hby at_46) rfl rfl (l' := #[.val (.int ja), .val (.int jb), .val (.int kk), .val (.int (2 : Int32)), .val (.ref b1), .val (.ref b3), .unset, .unset]) rfl ?_
    show Steps p.tables e below (T5.setTop (mkF m 48 #[.val (.int ja), .val (.int jb), .val (.int kk), .val (.int (2 : Int32)), .val (.ref b1), .val (.ref b3), .unset, .unset] [])) _
    refine st10 _ ?_
    show Steps p.tables e below (T10.setTop (mkF m 51 #[.val (.int ja), .val (.int jb), .val (.int kk), .val (.int (2 : Int32)), .val (.ref b1), .val (.ref b3), .unset, .unset] [(.ref b10)])) _
    refine XS.dup X10.here hx rfl (hb hby at_51) rfl rfl ?_
    show Steps p.tables e below (T10.setTop (mkF m 52 #[.val (.int ja), .val (.int jb), .val (.int kk), .val (.int (2 : Int32)), .val (.ref b1), .val (.ref b3), .unset, .unset] [(.ref b10), (.ref b10)])) _
    refine st11.trans ?_
    show Steps p.tables e below (T11.setTop (mkF m 55 #[.val (.int ja), .val (.int jb), .val (.int kk), .val (.int (2 : Int32)), .val (.ref b1), .val (.ref b3), .unset, .unset] [(.ref b10)])) _
    refine XS.astore X11.here hx rfl (hb hby at_55) rfl rfl (l' := #[.val (.int ja), .val (.int jb), .val (.int kk), .val (.int (2 : Int32)), .val (.ref b1), .val (.ref b3), .val (.ref b10), .unset]) rfl ?_
    show Steps p.tables e below (T11.setTop (mkF m 57 #[.val (.int ja), .val (.int jb), .val (.int kk), .val (.int (2 : Int32)), .val (.ref b1), .val (.ref b3), .val (.ref b10), .unset] [])) _
    refine XS.iloadN X11.here hx rfl (hb hby at_57) rfl ?_
    show Steps p.tables e below (T11.setTop (mkF m 58 #[.val (.int ja), .val (.int jb), .val (.int kk), .val (.int (2 : Int32)), .val (.ref b1), .val (.ref b3), .val (.ref b10), .unset] [(.int (2 : Int32))])) _
    refine XS.ifNo X11.here hx rfl (hb hby at_58) rfl ((if0 _ _).trans (tlt (by decide : (0 : Int32) < (2 : Int32))).2.2.2) ?_
    show Steps p.tables e below (T11.setTop (mkF m 61 #[.val (.int ja), .val (.int jb), .val (.int kk), .val (.int (2 : Int32)), .val (.ref b1), .val (.ref b3), .val (.ref b10), .unset] [])) _
    refine XS.aload X11.here hx rfl (hb hby at_61) rfl rfl ?_
    show Steps p.tables e below (T11.setTop (mkF m 63 #[.val (.int ja), .val (.int jb), .val (.int kk), .val (.int (2 : Int32)), .val (.ref b1), .val (.ref b3), .val (.ref b10), .unset] [(.ref b10)])) _
    refine XS.aload X11.here hx rfl (hb hby at_63) rfl rfl ?_
    show Steps p.tables e below (T11.setTop (mkF m 65 #[.val (.int ja), .val (.int jb), .val (.int kk), .val (.int (2 : Int32)), .val (.ref b1), .val (.ref b3), .val (.ref b10), .unset] [(.ref b3), (.ref b10)])) _
    refine st13.trans ?_
    show Steps p.tables e below (T13.setTop (mkF m 68 #[.val (.int ja), .val (.int jb), .val (.int kk), .val (.int (2 : Int32)), .val (.ref b1), .val (.ref b3), .val (.ref b10), .unset] [(.int (1 : Int32))])) _
    refine XS.pop X13.here hx rfl (hb hby at_68) rfl rfl ?_
    show Steps p.tables e below (T13.setTop (mkF m 69 #[.val (.int ja), .val (.int jb), .val (.int kk), .val (.int (2 : Int32)), .val (.ref b1), .val (.ref b3), .val (.ref b10), .unset] [])) _
    refine XS.iloadN X13.here hx rfl (hb hby at_69) rfl ?_
    show Steps p.tables e below (T13.setTop (mkF m 70 #[.val (.int ja), .val (.int jb), .val (.int kk), .val (.int (2 : Int32)), .val (.ref b1), .val (.ref b3), .val (.ref b10), .unset] [(.int (2 : Int32))])) _
    refine XS.iconst X13.here hx rfl (hb hby at_70) ?_
    show Steps p.tables e below (T13.setTop (mkF m 71 #[.val (.int ja), .val (.int jb), .val (.int kk), .val (.int (2 : Int32)), .val (.ref b1), .val (.ref b3), .val (.ref b10), .unset] [(.int (1 : Int32)), (.int (2 : Int32))])) _
    refine XS.icmpNo X13.here hx rfl (hb hby at_71) rfl (tlt (by decide : (1 : Int32) < (2 : Int32))).2.2.2 ?_
    show Steps p.tables e below (T13.setTop (mkF m 74 #[.val (.int ja), .val (.int jb), .val (.int kk), .val (.int (2 : Int32)), .val (.ref b1), .val (.ref b3), .val (.ref b10), .unset] [])) _
    refine XS.aload X13.here hx rfl (hb hby at_74) rfl rfl ?_
    show Steps p.tables e below (T13.setTop (mkF m 76 #[.val (.int ja), .val (.int jb), .val (.int kk), .val (.int (2 : Int32)), .val (.ref b1), .val (.ref b3), .val (.ref b10), .unset] [(.ref b10)])) _
    refine XS.aload X13.here hx rfl (hb hby at_76) rfl rfl ?_
    show Steps p.tables e below (T13.setTop (mkF m 78 #[.val (.int ja), .val (.int jb), .val (.int kk), .val (.int (2 : Int32)), .val (.ref b1), .val (.ref b3), .val (.ref b10), .unset] [(.ref b3), (.ref b10)])) _
    refine st17.trans ?_
    show Steps p.tables e below (T17.setTop (mkF m 81 #[.val (.int ja), .val (.int jb), .val (.int kk), .val (.int (2 : Int32)), .val (.ref b1), .val (.ref b3), .val (.ref b10), .unset] [(.int (1 : Int32))])) _
    refine XS.pop X17.here hx rfl (hb hby at_81) rfl rfl ?_
    show Steps p.tables e below (T17.setTop (mkF m 82 #[.val (.int ja), .val (.int jb), .val (.int kk), .val (.int (2 : Int32)), .val (.ref b1), .val (.ref b3), .val (.ref b10), .unset] [])) _
    refine XS.iloadN X17.here hx rfl (hb hby at_82) rfl ?_
    show Steps p.tables e below (T17.setTop (mkF m 83 #[.val (.int ja), .val (.int jb), .val (.int kk), .val (.int (2 : Int32)), .val (.ref b1), .val (.ref b3), .val (.ref b10), .unset] [(.int (2 : Int32))])) _
    refine XS.iconst X17.here hx rfl (hb hby at_83) ?_
    show Steps p.tables e below (T17.setTop (mkF m 84 #[.val (.int ja), .val (.int jb), .val (.int kk), .val (.int (2 : Int32)), .val (.ref b1), .val (.ref b3), .val (.ref b10), .unset] [(.int (2 : Int32)), (.int (2 : Int32))])) _
    refine XS.icmpYes X17.here hx rfl (pc0 := 84) (pc' := 95) rfl (hb hby at_84) rfl (flt (by decide : ¬ ((2 : Int32) < (2 : Int32)))).2.2.2 (by decide) (by decide) ?_
    show Steps p.tables e below (T17.setTop (mkF m 95 #[.val (.int ja), .val (.int jb), .val (.int kk), .val (.int (2 : Int32)), .val (.ref b1), .val (.ref b3), .val (.ref b10), .unset] [])) _
    refine XS.iloadN X17.here hx rfl (hb hby at_95) rfl ?_
    show Steps p.tables e below (T17.setTop (mkF m 96 #[.val (.int ja), .val (.int jb), .val (.int kk), .val (.int (2 : Int32)), .val (.ref b1), .val (.ref b3), .val (.ref b10), .unset] [(.int (2 : Int32))])) _
    refine XS.iconst X17.here hx rfl (hb hby at_96) ?_
    show Steps p.tables e below (T17.setTop (mkF m 97 #[.val (.int ja), .val (.int jb), .val (.int kk), .val (.int (2 : Int32)), .val (.ref b1), .val (.ref b3), .val (.ref b10), .unset] [(.int (3 : Int32)), (.int (2 : Int32))])) _
    refine XS.icmpYes X17.here hx rfl (pc0 := 97) (pc' := 108) rfl (hb hby at_97) rfl (flt (by decide : ¬ ((3 : Int32) < (2 : Int32)))).2.2.2 (by decide) (by decide) ?_
    show Steps p.tables e below (T17.setTop (mkF m 108 #[.val (.int ja), .val (.int jb), .val (.int kk), .val (.int (2 : Int32)), .val (.ref b1), .val (.ref b3), .val (.ref b10), .unset] [])) _
    refine XS.iloadN X17.here hx rfl (hb hby at_108) rfl ?_
    show Steps p.tables e below (T17.setTop (mkF m 109 #[.val (.int ja), .val (.int jb), .val (.int kk), .val (.int (2 : Int32)), .val (.ref b1), .val (.ref b3), .val (.ref b10), .unset] [(.int (2 : Int32))])) _
    refine XS.iconst X17.here hx rfl (hb hby at_109) ?_
    show Steps p.tables e below (T17.setTop (mkF m 110 #[.val (.int ja), .val (.int jb), .val (.int kk), .val (.int (2 : Int32)), .val (.ref b1), .val (.ref b3), .val (.ref b10), .unset] [(.int (4 : Int32)), (.int (2 : Int32))])) _
    refine XS.icmpYes X17.here hx rfl (pc0 := 110) (pc' := 121) rfl (hb hby at_110) rfl (flt (by decide : ¬ ((4 : Int32) < (2 : Int32)))).2.2.2 (by decide) (by decide) ?_
    show Steps p.tables e below (T17.setTop (mkF m 121 #[.val (.int ja), .val (.int jb), .val (.int kk), .val (.int (2 : Int32)), .val (.ref b1), .val (.ref b3), .val (.ref b10), .unset] [])) _
    refine XS.iloadN X17.here hx rfl (hb hby at_121) rfl ?_
    show Steps p.tables e below (T17.setTop (mkF m 122 #[.val (.int ja), .val (.int jb), .val (.int kk), .val (.int (2 : Int32)), .val (.ref b1), .val (.ref b3), .val (.ref b10), .unset] [(.int (2 : Int32))])) _
    refine XS.iconst X17.here hx rfl (hb hby at_122) ?_
    show Steps p.tables e below (T17.setTop (mkF m 123 #[.val (.int ja), .val (.int jb), .val (.int kk), .val (.int (2 : Int32)), .val (.ref b1), .val (.ref b3), .val (.ref b10), .unset] [(.int (5 : Int32)), (.int (2 : Int32))])) _
    refine XS.icmpYes X17.here hx rfl (pc0 := 123) (pc' := 134) rfl (hb hby at_123) rfl (flt (by decide : ¬ ((5 : Int32) < (2 : Int32)))).2.2.2 (by decide) (by decide) ?_
    show Steps p.tables e below (T17.setTop (mkF m 134 #[.val (.int ja), .val (.int jb), .val (.int kk), .val (.int (2 : Int32)), .val (.ref b1), .val (.ref b3), .val (.ref b10), .unset] [])) _
    refine XS.iloadN X17.here hx rfl (hb hby at_134) rfl ?_
    show Steps p.tables e below (T17.setTop (mkF m 135 #[.val (.int ja), .val (.int jb), .val (.int kk), .val (.int (2 : Int32)), .val (.ref b1), .val (.ref b3), .val (.ref b10), .unset] [(.int (2 : Int32))])) _
    refine XS.bipush X17.here hx rfl (hb hby at_135) ?_
    show Steps p.tables e below (T17.setTop (mkF m 137 #[.val (.int ja), .val (.int jb), .val (.int kk), .val (.int (2 : Int32)), .val (.ref b1), .val (.ref b3), .val (.ref b10), .unset] [(.int (6 : Int32)), (.int (2 : Int32))])) _
    refine XS.icmpYes X17.here hx rfl (pc0 := 137) (pc' := 148) rfl (hb hby at_137) rfl (flt (by decide : ¬ ((6 : Int32) < (2 : Int32)))).2.2.2 (by decide) (by decide) ?_
    show Steps p.tables e below (T17.setTop (mkF m 148 #[.val (.int ja), .val (.int jb), .val (.int kk), .val (.int (2 : Int32)), .val (.ref b1), .val (.ref b3), .val (.ref b10), .unset] [])) _
    refine XS.iloadN X17.here hx rfl (hb hby at_148) rfl ?_
    show Steps p.tables e below (T17.setTop (mkF m 149 #[.val (.int ja), .val (.int jb), .val (.int kk), .val (.int (2 : Int32)), .val (.ref b1), .val (.ref b3), .val (.ref b10), .unset] [(.int (2 : Int32))])) _
    refine XS.iloadN X17.here hx rfl (hb hby at_149) rfl ?_
    show Steps p.tables e below (T17.setTop (mkF m 150 #[.val (.int ja), .val (.int jb), .val (.int kk), .val (.int (2 : Int32)), .val (.ref b1), .val (.ref b3), .val (.ref b10), .unset] [(.int kk), (.int (2 : Int32))])) _
    refine XS.icmpYes X17.here hx rfl (pc0 := 150) (pc' := 157) rfl (hb hby at_150) rfl (tlt hrd).2.2.1 (by decide) (by decide) ?_
    show Steps p.tables e below (T17.setTop (mkF m 157 #[.val (.int ja), .val (.int jb), .val (.int kk), .val (.int (2 : Int32)), .val (.ref b1), .val (.ref b3), .val (.ref b10), .unset] [])) _
    refine XS.iconst X17.here hx rfl (hb hby at_157) ?_
    show Steps p.tables e below (T17.setTop (mkF m 158 #[.val (.int ja), .val (.int jb), .val (.int kk), .val (.int (2 : Int32)), .val (.ref b1), .val (.ref b3), .val (.ref b10), .unset] [(.int (0 : Int32))])) _
    refine XS.istore X17.here hx rfl (hb hby at_158) rfl (l' := #[.val (.int ja), .val (.int jb), .val (.int kk), .val (.int (2 : Int32)), .val (.ref b1), .val (.ref b3), .val (.ref b10), .val (.int (0 : Int32))]) rfl ?_
    show Steps p.tables e below (T17.setTop (mkF m 160 #[.val (.int ja), .val (.int jb), .val (.int kk), .val (.int (2 : Int32)), .val (.ref b1), .val (.ref b3), .val (.ref b10), .val (.int (0 : Int32))] [])) _
    refine XS.aload X17.here hx rfl (hb hby at_160) rfl rfl ?_
    show Steps p.tables e below (T17.setTop (mkF m 162 #[.val (.int ja), .val (.int jb), .val (.int kk), .val (.int (2 : Int32)), .val (.ref b1), .val (.ref b3), .val (.ref b10), .val (.int (0 : Int32))] [(.ref b1)])) _
    refine XS.aload X17.here hx rfl (hb hby at_162) rfl rfl ?_
    show Steps p.tables e below (T17.setTop (mkF m 164 #[.val (.int ja), .val (.int jb), .val (.int kk), .val (.int (2 : Int32)), .val (.ref b1), .val (.ref b3), .val (.ref b10), .val (.int (0 : Int32))] [(.ref b10), (.ref b1)])) _
    refine st19.trans ?_
    show Steps p.tables e below (T19.setTop (mkF m 167 #[.val (.int ja), .val (.int jb), .val (.int kk), .val (.int (2 : Int32)), .val (.ref b1), .val (.ref b3), .val (.ref b10), .val (.int (0 : Int32))] [(.int (0 : Int32))])) _
    refine XS.iload X19.here hx rfl (hb hby at_167) rfl ?_
    show Steps p.tables e below (T19.setTop (mkF m 169 #[.val (.int ja), .val (.int jb), .val (.int kk), .val (.int (2 : Int32)), .val (.ref b1), .val (.ref b3), .val (.ref b10), .val (.int (0 : Int32))] [(.int (0 : Int32)), (.int (0 : Int32))])) _
    refine XS.icmpNo X19.here hx rfl (hb hby at_169) rfl (teq (rfl : (0 : Int32) = (0 : Int32))).2 ?_
    show Steps p.tables e below (T19.setTop (mkF m 172 #[.val (.int ja), .val (.int jb), .val (.int kk), .val (.int (2 : Int32)), .val (.ref b1), .val (.ref b3), .val (.ref b10), .val (.int (0 : Int32))] [])) _
    refine XS.iconst X19.here hx rfl (hb hby at_172) ?_
    show Steps p.tables e below (T19.setTop (mkF m 173 #[.val (.int ja), .val (.int jb), .val (.int kk), .val (.int (2 : Int32)), .val (.ref b1), .val (.ref b3), .val (.ref b10), .val (.int (0 : Int32))] [(.int (1 : Int32))])) _
    refine XS.goto X19.here hx rfl (pc0 := 173) (pc' := 177) rfl (hb hby at_173) (by decide) (by decide) ?_
    show Steps p.tables e below (T19.setTop (mkF m 177 #[.val (.int ja), .val (.int jb), .val (.int kk), .val (.int (2 : Int32)), .val (.ref b1), .val (.ref b3), .val (.ref b10), .val (.int (0 : Int32))] [(.int (1 : Int32))])) _
    exact retN X19 hx (t := .boolean) Bd.returns (by simp) (hb hby at_177) hr
  · show Q_rm0_2t Z ja jb kk de kd h0 n0 _ T19.heap _
    rw [e19]
    exact ⟨rfl, N19⟩
def Q_rm0_2f (Z : State) (ja : Int32) (jb : Int32) (kk : Int32) (de : Addr) (kd : ClassId) (h0 : Heap) (n0 : Nat) (v : Option Value) (h : Heap) (L : List Loc) : Prop := v = some (.int (1 : Int32)) ∧ Fr n0 L
theorem ef_rm0_2f (m : MethodId) (ja : Int32) (jb : Int32) : entryFrame m #[(.int ja), (.int jb)] maxLocals = mkF m 0 #[.val (.int ja), .val (.int jb), .unset, .unset, .unset, .unset, .unset, .unset] [] := by first | (simp [entryFrame, mkF, argsToLocals, Value.category, maxLocals]; done) | rfl
set_option maxRecDepth 65536 in
set_option maxHeartbeats 40000000 in
theorem rm0_2f (l : Launch) (Z : State) (a0 : Array Value) (hw : ∀ d ∈ tables_1, d.before a0 Z = true) (ws : List Jvm.Cond) (ja : Int32) (jb : Int32) (kk : Int32) (de : Addr) (kd : ClassId) (h0 : Heap) (n0 : Nat) (Z0 : n0 ≤ h0.size) (hwS : ∀ a ∈ Bundle.stringAtoms, a.before a0 Z = true) (hn0 : n0 = h0.size) (hcn : Jvm.Lit.constHeld Z "com/example/sortition/sortition/SlotsAllowsPinLaw" 15) (hcw : Jvm.Lit.compactW.before a0 Z = true) (S_DE : Sta Z h0 "java/util/ArrayList" "DEFAULTCAPACITY_EMPTY_ELEMENTDATA" "[Ljava/lang/Object;" (.ref de)) (V_de : Arv Z h0 de kd (.object "java/lang/Object") (0 : Int32) [] .null) (hkk : (own_k ja jb) = kk) (gkk : ¬ (kk < (0 : Int32))) (hn : (jb &&& (7 : Int32)) = (2 : Int32)) (hrd : ¬ (kk < (2 : Int32))) :
    MetFree l x (head1 (Jvm.Cond.code x code maxLocals ret :: ws) room_1) (fun a U => a = #[(.int ja), (.int jb)] ∧ Z.Warmed39 U.vm ∧ U.heap = h0 ∧ U.vm.interned = Z.vm.interned ∧ (∀ (b : Addr) (cl : Cell), Z.heap[b]? = some cl → U.heap[b]? = some cl)) (fun _ _ _ _ _ => True) (fun _ U o U' => ∃ v L, o = .returned v ∧ Q_rm0_2f Z ja jb kk de kd h0 n0 v U'.heap L ∧ ReturnedEndW U o U' L room_1.cells room_1.slots) := by
  refine MetFree.of_bodySF (plainFor_of_name pn_8) hisR ?_
  intro p e s m args below meth c s₁ Bd hml0 hP hK
  obtain ⟨rfl, hZ, hh, hI0, hK0⟩ := hP
  have hx := Bd.exec
  have hby := Bd.bytes
  have hml : c.maxLocals = 8 := hml0
  have hown : s.vm.findClass "com/example/sortition/sortition/SlotsAllowsPinLaw" = some m.cls := findClass_of_methodNamed Bd.named
  have hnm := (name_of_methodNamed Bd.named Bd.method).1
  have X0 : Stand p l e room_1 s m #[(.int ja), (.int jb)] below meth c s₁ [] 0 0 := Stand.of_body Bd
  have e0 : s₁.heap = h0 := by rw [← hh, Bd.state]; rfl
  have N0 := Fr.nil n0
  have hS0 := (State.WarmedH.refl s).since 0
  have pre0 : ∀ t, Steps p.tables e below (s₁.setTop (mkF m 0 #[.val (.int ja), .val (.int jb), .unset, .unset, .unset, .unset, .unset, .unset] [])) t → Steps p.tables e below (s₁.setTop (entryFrame m #[(.int ja), (.int jb)] maxLocals)) t := fun t k => castTop (ef_rm0_2f m ja jb) k
  have stp := own_pre ja jb X0 hx hZ hw hby hown
  rw [hkk] at stp
  obtain ⟨T1, h1, X1, e1, E1, A1, D1, -, st1⟩ := newO X0 hx hZ hown (ow hw 0 rfl) (ow hw 1 rfl) (ow hw 2 rfl) e0 (g := (mkF m 25 #[.val (.int ja), .val (.int jb), .val (.int kk), .val (.int (2 : Int32)), .unset, .unset, .unset, .unset] [])) rfl (hb hby at_25) (by decide) (by decide)
  obtain ⟨b1, g1⟩ : ∃ z, z = h0.size := ⟨_, rfl⟩
  rw [← g1] at A1 D1 st1
  have F1_3 : Fld Z h1 b1 "com/example/sortition/sortition/Slots" "size" "I" (.int (0 : Int32)) := D1 (Or.inr (ow hw 15 rfl)) (ty := .int) (by decide)
  obtain ⟨_, _, ⟨T2, L2, k2, n2⟩, -, X2, ⟨Lc2, hQ2, l2, y2, z2⟩, st2⟩ := X1.specialBack hx (y := (⟨"com/example/sortition/sortition/Slots", "<init>", "(I)V"⟩ : MethodName)) rfl hown (mvT hZ (ow hw 3 rfl)) (mvT hZ (ow hw 4 rfl)) (mvT hZ (ow hw 5 rfl)) (by decide) (backOf (W := 1) (rmSl l Z a0 hw [] b1 kk (.int (0 : Int32)) h1 n0 (Nat.le_trans Z0 E1.1) gkk F1_3 A1 (Nat.le_trans Z0 (Nat.le_of_eq g1.symm))) hZ (ow hw 5 rfl) (ow hw 2 rfl) (by decide) (by decide)) (g := (mkF m 30 #[.val (.int ja), .val (.int jb), .val (.int kk), .val (.int (2 : Int32)), .unset, .unset, .unset, .unset] [(.int kk), (.ref b1), (.ref b1)])) rfl (by rw [hml]; rfl) (Steps.refl _) (a := b1) (argsL := [(.int kk)]) (rest := [(.ref b1)]) (lenOf pd_8 rfl) rfl (by show 2 * 0 + _ ≤ _; exact Nat.le_of_eq rfl) (hb hby at_30) (fun _ _ => ⟨rfl, e1, (by decide : 1 + 0 ≤ _), (by decide : 1 + 0 ≤ _)⟩)
  dsimp only [Pt.U, Pt.locs, Pt.cells, Pt.slots] at X2 l2 y2 z2 st2 hQ2
  subst l2 y2 z2
  obtain ⟨rfl, Nq2, Kp2, Fq2_0, Fq2_1⟩ := hQ2
  have N2 := Fr.app N0 Nq2
  obtain ⟨T3, h3, X3, e3, E3, A3, D3, -, st3⟩ := newO X2 hx hZ hown (ow hw 16 rfl) (ow hw 17 rfl) (ow hw 18 rfl) rfl (g := (mkF m 35 #[.val (.int ja), .val (.int jb), .val (.int kk), .val (.int (2 : Int32)), .val (.ref b1), .unset, .unset, .unset] [])) rfl (hb hby at_35) (by decide) (by decide)
  obtain ⟨b3, g3⟩ : ∃ z, z = T2.heap.size := ⟨_, rfl⟩
  rw [← g3] at A3 D3 st3
  have F3_5 : Fld Z h3 b3 "com/example/sortition/sortition/Element" "index" "I" (.int (0 : Int32)) := D3 (Or.inr (ow hw 44 rfl)) (ty := .int) (by decide)
  have F3_6 : Fld Z h3 b3 "com/example/sortition/sortition/Element" "id" "Ljava/lang/String;" .null := D3 (Or.inr (ow hw 46 rfl)) (ty := (.object "java/lang/String")) (by decide)
  have F3_7 : Fld Z h3 b3 "com/example/sortition/sortition/Element" "value" "D" (.double 0) := D3 (Or.inr (ow hw 48 rfl)) (ty := .double) (by decide)
  obtain ⟨a4, T4, h4, k4, b4, kc4, X4, e4, E4, hS4, hk4, hZ4, hown4, A4, -, Fv4, V4, -, -, -, st4⟩ := ldcSV (s := s) (vm0 := s.vm) X3 hx hZ hown (ow hw 19 rfl) hwS e3 hS0 (Nat.le_trans (Nat.le_trans (Nat.le_trans (Nat.zero_le _) E1.1) Kp2.1) E3.1) (by rw [hh, ← hn0]; exact N2) hK0 (⟨#[], by simpa using hI0, fun q hq => by simp at hq⟩ : IB Z s.vm []) (by simp) hcn hcw (vs := [(.int (120 : Int32))]) (z := (1 : Int32)) ⟨by decide, by decide⟩ (by decide) rfl (g := (mkF m 40 #[.val (.int ja), .val (.int jb), .val (.int kk), .val (.int (2 : Int32)), .val (.ref b1), .unset, .unset, .unset] [(.int (0 : Int32)), (.ref b3), (.ref b3)])) rfl (hb hby at_40) (n := 4) (by decide) (by decide) (by decide) (by decide)
  have f6 : Fld Z h4 b3 "com/example/sortition/sortition/Element" "index" "I" (.int (0 : Int32)) := (F3_5.ext E4)
  have f7 : Exa Z h4 b3 "com/example/sortition/sortition/Element" := (A3.ext E4)
  have f8 : Fld Z h4 b3 "com/example/sortition/sortition/Element" "id" "Ljava/lang/String;" .null := (F3_6.ext E4)
  have f9 : Fld Z h4 b3 "com/example/sortition/sortition/Element" "value" "D" (.double 0) := (F3_7.ext E4)
  obtain ⟨_, _, ⟨T5, L5, k5, n5⟩, -, X5, hSq5, hgq5, ⟨Lc5, hQ5, l5, y5, z5⟩, st5⟩ := X4.specialBackS hx (y := (⟨"com/example/sortition/sortition/Element", "<init>", "(ILjava/lang/String;D)V"⟩ : MethodName)) rfl hown4 (mvT hZ4 (ow hw 27 rfl)) (mvT hZ4 (ow hw 28 rfl)) (mvT hZ4 (ow hw 29 rfl)) (by decide) (backOfS (W := 1) (rmEI l Z a0 hw [] b3 (0 : Int32) a4 4607182418800017408 b4 kc4 [(.int (120 : Int32))] (.int (0 : Int32)) .null (.double 0) h4 n0 (Nat.le_trans (Nat.le_trans (Nat.le_trans (Nat.le_trans Z0 E1.1) Kp2.1) E3.1) E4.1) hwS A4 Fv4 V4 (by first | assumption | decide) (by decide +kernel) (by decide +kernel) own_nn1 f6 f7 (Nat.le_trans (Nat.le_trans (Nat.le_trans Z0 E1.1) Kp2.1) (Nat.le_of_eq g3.symm)) f8 f9) hZ4 (ow hw 29 rfl) (ow hw 18 rfl) (by decide) (by decide)) (g := (mkF m 43 #[.val (.int ja), .val (.int jb), .val (.int kk), .val (.int (2 : Int32)), .val (.ref b1), .unset, .unset, .unset] [(.double 4607182418800017408), (.ref a4), (.int (0 : Int32)), (.ref b3), (.ref b3)])) rfl (by rw [hml]; rfl) (Steps.refl _) (a := b3) (argsL := [(.int (0 : Int32)), (.ref a4), (.double 4607182418800017408)]) (rest := [(.ref b3)]) (lenOf pd_9 rfl) rfl (by show 2 * 0 + _ ≤ _; exact Nat.le_of_eq rfl) (hb hby at_43) (fun _ _ => ⟨rfl, e4, (by decide : 4 + 2 ≤ _), (by decide : 12 + 12 ≤ _)⟩)
  dsimp only [Pt.U, Pt.locs, Pt.cells, Pt.slots] at X5 l5 y5 z5 st5 hQ5 hSq5 hgq5
  subst l5 y5 z5
  obtain ⟨X5, hS5, hZ5, hown5⟩ := rebS (s := s) (vm0 := T4.vm) hS4 (by rw [e4]; exact hk4) X5 hSq5 hgq5 hZ4 hown4
  obtain ⟨rfl, Nq5, Kp5, Fq5_0, Fq5_1, Fq5_2⟩ := hQ5
  have N5 := Fr.app N2 Nq5
  obtain ⟨T10, h10, X10, e10, E10, A10, D10, -, st10⟩ := newO X5 hx hZ5 hown5 (ow hw 49 rfl) (ow hw 50 rfl) (ow hw 51 rfl) rfl (g := (mkF m 48 #[.val (.int ja), .val (.int jb), .val (.int kk), .val (.int (2 : Int32)), .val (.ref b1), .val (.ref b3), .unset, .unset] [])) rfl (hb hby at_48) (by decide) (by decide)
  obtain ⟨b10, g10⟩ : ∃ z, z = T5.heap.size := ⟨_, rfl⟩
  rw [← g10] at A10 D10 st10
  have F10_12 : Fld Z h10 b10 "java/util/AbstractList" "modCount" "I" (.int (0 : Int32)) := D10 (Or.inl (ow hw 69 rfl)) (ty := .int) (by decide)
  have F10_13 : Fld Z h10 b10 "java/util/ArrayList" "elementData" "[Ljava/lang/Object;" .null := D10 (Or.inl (ow hw 72 rfl)) (ty := (.array (.object "java/lang/Object"))) (by decide)
  have F10_14 : Fld Z h10 b10 "java/util/ArrayList" "size" "I" (.int (0 : Int32)) := D10 (Or.inl (ow hw 81 rfl)) (ty := .int) (by decide)
  have f12 : Sta Z h10 "java/util/ArrayList" "DEFAULTCAPACITY_EMPTY_ELEMENTDATA" "[Ljava/lang/Object;" (.ref de) := ((Sta_keep (((Sta_keep (S_DE.ext E1) Kp2 (nsS A1.nostat ns0)).ext E3).ext E4) Kp5 (nsS f7.nostat ns0)).ext E10)
  obtain ⟨_, _, ⟨T11, L11, k11, n11⟩, -, X11, ⟨Lc11, hQ11, l11, y11, z11⟩, st11⟩ := X10.specialBack hx (y := (⟨"java/util/ArrayList", "<init>", "()V"⟩ : MethodName)) rfl hown5 (mvT hZ5 (ow hw 52 rfl)) (mvT hZ5 (ow hw 53 rfl)) (mvT hZ5 (ow hw 54 rfl)) (by decide) (backOf (W := 1) (rmAL l Z a0 hw [] b10 de (.int (0 : Int32)) .null h10 n0 (Nat.le_trans (Nat.le_trans (Nat.le_trans (Nat.le_trans (Nat.le_trans (Nat.le_trans Z0 E1.1) Kp2.1) E3.1) E4.1) Kp5.1) E10.1) A10 F10_12 F10_13 f12 F10_14 (Nat.le_trans (Nat.le_trans (Nat.le_trans (Nat.le_trans (Nat.le_trans (Nat.le_trans Z0 E1.1) Kp2.1) E3.1) E4.1) Kp5.1) (Nat.le_of_eq g10.symm))) hZ5 (ow hw 54 rfl) (ow hw 51 rfl) (by decide) (by decide)) (g := (mkF m 52 #[.val (.int ja), .val (.int jb), .val (.int kk), .val (.int (2 : Int32)), .val (.ref b1), .val (.ref b3), .unset, .unset] [(.ref b10), (.ref b10)])) rfl (by rw [hml]; rfl) (Steps.refl _) (a := b10) (argsL := []) (rest := [(.ref b10)]) (lenOf pd_0 rfl) rfl (by show 2 * 0 + _ ≤ _; exact Nat.le_of_eq rfl) (hb hby at_52) (fun _ _ => ⟨rfl, e10, (by decide : 7 + 0 ≤ _), (by decide : 27 + 0 ≤ _)⟩)
  dsimp only [Pt.U, Pt.locs, Pt.cells, Pt.slots] at X11 l11 y11 z11 st11 hQ11
  subst l11 y11 z11
  obtain ⟨rfl, Nq11, Kp11, Fq11_0, Fq11_1, Fq11_2, Fq11_3⟩ := hQ11
  have N11 := Fr.app N5 Nq11
  have f14 : Arv Z T11.heap de kd (.object "java/lang/Object") (0 : Int32) [] .null := (((((((V_de.ext E1).keep Kp2 (ninS (Nat.ne_of_lt (Nat.lt_of_lt_of_le V_de.lt (Nat.le_of_eq g1.symm))) nin0)).ext E3).ext E4).keep Kp5 (ninS (Nat.ne_of_lt (Nat.lt_of_lt_of_le ((V_de.ext E1).keep Kp2 (ninS (Nat.ne_of_lt (Nat.lt_of_lt_of_le V_de.lt (Nat.le_of_eq g1.symm))) nin0)).lt (Nat.le_of_eq g3.symm))) nin0)).ext E10).keep Kp11 (ninS (Nat.ne_of_lt (Nat.lt_of_lt_of_le (((((V_de.ext E1).keep Kp2 (ninS (Nat.ne_of_lt (Nat.lt_of_lt_of_le V_de.lt (Nat.le_of_eq g1.symm))) nin0)).ext E3).ext E4).keep Kp5 (ninS (Nat.ne_of_lt (Nat.lt_of_lt_of_le ((V_de.ext E1).keep Kp2 (ninS (Nat.ne_of_lt (Nat.lt_of_lt_of_le V_de.lt (Nat.le_of_eq g1.symm))) nin0)).lt (Nat.le_of_eq g3.symm))) nin0)).lt (Nat.le_of_eq g10.symm))) nin0))
  have f15 : Sta Z T11.heap "java/util/ArrayList" "DEFAULTCAPACITY_EMPTY_ELEMENTDATA" "[Ljava/lang/Object;" (.ref de) := (Sta_keep f12 Kp11 (nsS A10.nostat ns0))
  have f16 : Exa Z T11.heap b3 "com/example/sortition/sortition/Element" := ((Fq5_0.ext E10).keep Kp11)
  obtain ⟨cq13, kq13, q13a, q13b, q13c⟩ := isOf hZ5 rfl Fq11_0
  obtain ⟨_, _, ⟨T13, L13, k13, n13⟩, -, X13, ⟨Lc13, hQ13, l13, y13, z13⟩, st13⟩ := X11.virtualBack hx (y := (⟨"java/util/ArrayList", "add", "(Ljava/lang/Object;)Z"⟩ : MethodName)) (z := (⟨"java/util/ArrayList", "add", "(Ljava/lang/Object;)Z"⟩ : MethodName)) hown5 (mvT hZ5 (ow hw 73 rfl)) (mvT hZ5 (ow hw 74 rfl)) (notFace_of_selects (args := #[]) (mvT hZ5 (ow hw 76 rfl))) (mvT hZ5 (ow hw 76 rfl)) (mvT hZ5 (ow hw 75 rfl)) (by decide) (backOf (W := 0) (rmA0 l Z a0 hw [] b10 b3 de kd (0 : Int32) T11.heap n0 (Nat.le_trans (Nat.le_trans (Nat.le_trans (Nat.le_trans (Nat.le_trans (Nat.le_trans (Nat.le_trans Z0 E1.1) Kp2.1) E3.1) E4.1) Kp5.1) E10.1) Kp11.1) Fq11_1 Fq11_0 Fq11_2 Fq11_3 f14 f15 f16 (Nat.le_trans (Nat.le_trans (Nat.le_trans (Nat.le_trans (Nat.le_trans (Nat.le_trans Z0 E1.1) Kp2.1) E3.1) E4.1) Kp5.1) (Nat.le_of_eq g10.symm)) (Nat.ne_of_lt (Nat.lt_of_lt_of_le (((((V_de.ext E1).keep Kp2 (ninS (Nat.ne_of_lt (Nat.lt_of_lt_of_le V_de.lt (Nat.le_of_eq g1.symm))) nin0)).ext E3).ext E4).keep Kp5 (ninS (Nat.ne_of_lt (Nat.lt_of_lt_of_le ((V_de.ext E1).keep Kp2 (ninS (Nat.ne_of_lt (Nat.lt_of_lt_of_le V_de.lt (Nat.le_of_eq g1.symm))) nin0)).lt (Nat.le_of_eq g3.symm))) nin0)).lt (Nat.le_of_eq g10.symm)))) hZ5 (ow hw 77 rfl) (ow hw 51 rfl) (by decide) (by decide)) q13a q13c (g := (mkF m 65 #[.val (.int ja), .val (.int jb), .val (.int kk), .val (.int (2 : Int32)), .val (.ref b1), .val (.ref b3), .val (.ref b10), .unset] [(.ref b3), (.ref b10)])) rfl (by rw [hml]; rfl) (Steps.refl _) (argsL := [(.ref b3)]) (rest := []) (lenOf pd_11 rfl) rfl (by show 2 * 0 + _ ≤ _; exact Nat.le_of_eq rfl) (hb hby at_65) (fun _ _ => ⟨rfl, rfl, (by decide : 7 + 1 ≤ _), (by decide : 27 + 10 ≤ _)⟩)
  dsimp only [Pt.U, Pt.locs, Pt.cells, Pt.slots] at X13 l13 y13 z13 st13 hQ13
  subst l13 y13 z13
  obtain ⟨nb_13, ka_13, rfl, Nq13, gb13_0, Kp13, Fq13_0, Fq13_1, Fq13_2, Fq13_3, Fq13_4, Pq13_0⟩ := hQ13
  have N13 := Fr.app N11 Nq13
  have f18 : Exa Z T13.heap b3 "com/example/sortition/sortition/Element" := (f16.keep Kp13)
  obtain ⟨cq17, kq17, q17a, q17b, q17c⟩ := isOf hZ5 rfl Fq13_0
  obtain ⟨_, _, ⟨T17, L17, k17, n17⟩, -, X17, ⟨Lc17, hQ17, l17, y17, z17⟩, st17⟩ := X13.virtualBack hx (y := (⟨"java/util/ArrayList", "add", "(Ljava/lang/Object;)Z"⟩ : MethodName)) (z := (⟨"java/util/ArrayList", "add", "(Ljava/lang/Object;)Z"⟩ : MethodName)) hown5 (mvT hZ5 (ow hw 73 rfl)) (mvT hZ5 (ow hw 74 rfl)) (notFace_of_selects (args := #[]) (mvT hZ5 (ow hw 76 rfl))) (mvT hZ5 (ow hw 76 rfl)) (mvT hZ5 (ow hw 75 rfl)) (by decide) (backOf (W := 0) (rmA1 l Z a0 hw [] b10 b3 nb_13 ka_13 ((0 : Int32) + (1 : Int32)) T13.heap n0 (Nat.le_trans (Nat.le_trans (Nat.le_trans (Nat.le_trans (Nat.le_trans (Nat.le_trans (Nat.le_trans (Nat.le_trans Z0 E1.1) Kp2.1) E3.1) E4.1) Kp5.1) E10.1) Kp11.1) Kp13.1) Fq13_1 Fq13_0 Fq13_2 Fq13_3 Fq13_4 Pq13_0 f18 (Nat.le_trans (Nat.le_trans (Nat.le_trans (Nat.le_trans (Nat.le_trans (Nat.le_trans Z0 E1.1) Kp2.1) E3.1) E4.1) Kp5.1) (Nat.le_of_eq g10.symm)) (Ne.symm (Nat.ne_of_lt (Nat.lt_of_lt_of_le Fq11_0.lt gb13_0))) (Nat.le_trans (Nat.le_trans (Nat.le_trans (Nat.le_trans (Nat.le_trans (Nat.le_trans (Nat.le_trans (Nat.le_trans Z0 E1.1) Kp2.1) E3.1) E4.1) Kp5.1) E10.1) Kp11.1) gb13_0)) hZ5 (ow hw 77 rfl) (ow hw 51 rfl) (by decide) (by decide)) q17a q17c (g := (mkF m 78 #[.val (.int ja), .val (.int jb), .val (.int kk), .val (.int (2 : Int32)), .val (.ref b1), .val (.ref b3), .val (.ref b10), .unset] [(.ref b3), (.ref b10)])) rfl (by rw [hml]; rfl) (Steps.refl _) (argsL := [(.ref b3)]) (rest := []) (lenOf pd_11 rfl) rfl (by show 2 * 0 + _ ≤ _; exact Nat.le_of_eq rfl) (hb hby at_78) (fun _ _ => ⟨rfl, rfl, (by decide : 8 + 0 ≤ _), (by decide : 37 + 0 ≤ _)⟩)
  dsimp only [Pt.U, Pt.locs, Pt.cells, Pt.slots] at X17 l17 y17 z17 st17 hQ17
  subst l17 y17 z17
  obtain ⟨rfl, Nq17, Kp17, Fq17_0, Fq17_1, Fq17_2, Fq17_3, Fq17_4⟩ := hQ17
  have N17 := Fr.app N13 Nq17
  have f20 : Fld Z T17.heap b1 "com/example/sortition/sortition/Slots" "size" "I" (.int kk) := (((((((Fq2_1.ext E3).ext E4).keep Kp5 (ninS (Nat.ne_of_lt (Nat.lt_of_lt_of_le Fq2_0.lt (Nat.le_of_eq g3.symm))) nin0)).ext E10).keep Kp11 (ninS (Nat.ne_of_lt (Nat.lt_of_lt_of_le (((Fq2_0.ext E3).ext E4).keep Kp5).lt (Nat.le_of_eq g10.symm))) nin0)).keep Kp13 (ninS (Nat.ne_of_lt (Nat.lt_of_lt_of_le (((Fq2_0.ext E3).ext E4).keep Kp5).lt (Nat.le_of_eq g10.symm))) nin0)).keep Kp17 (ninS (Nat.ne_of_lt (Nat.lt_of_lt_of_le (((Fq2_0.ext E3).ext E4).keep Kp5).lt (Nat.le_of_eq g10.symm))) (ninS (Nat.ne_of_lt (Nat.lt_of_lt_of_le (((((Fq2_0.ext E3).ext E4).keep Kp5).ext E10).keep Kp11).lt gb13_0)) nin0)))
  have f21 : Exa Z T17.heap b1 "com/example/sortition/sortition/Slots" := (((((((Fq2_0.ext E3).ext E4).keep Kp5).ext E10).keep Kp11).keep Kp13).keep Kp17)
  obtain ⟨cq19, kq19, q19a, q19b, q19c⟩ := isOf hZ5 rfl f21
  obtain ⟨_, _, ⟨T19, L19, k19, n19⟩, -, X19, ⟨Lc19, hQ19, l19, y19, z19⟩, st19⟩ := X17.virtualBack hx (y := (⟨"com/example/sortition/sortition/Slots", "allows", "(Ljava/util/List;)Z"⟩ : MethodName)) (z := (⟨"com/example/sortition/sortition/Slots", "allows", "(Ljava/util/List;)Z"⟩ : MethodName)) hown5 (mvT hZ5 (ow hw 104 rfl)) (mvT hZ5 (ow hw 105 rfl)) (notFace_of_selects (args := #[]) (mvT hZ5 (ow hw 107 rfl))) (mvT hZ5 (ow hw 107 rfl)) (mvT hZ5 (ow hw 106 rfl)) (by decide) (backOf (W := 0) (rmAW_f l Z a0 hw [] b1 b10 (2 : Int32) kk T17.heap n0 (Nat.le_trans (Nat.le_trans (Nat.le_trans (Nat.le_trans (Nat.le_trans (Nat.le_trans (Nat.le_trans (Nat.le_trans (Nat.le_trans Z0 E1.1) Kp2.1) E3.1) E4.1) Kp5.1) E10.1) Kp11.1) Kp13.1) Kp17.1) Fq17_0 Fq17_3 f20 hrd) hZ5 (ow hw 108 rfl) (ow hw 2 rfl) (by decide) (by decide)) q19a q19c (g := (mkF m 164 #[.val (.int ja), .val (.int jb), .val (.int kk), .val (.int (2 : Int32)), .val (.ref b1), .val (.ref b3), .val (.ref b10), .val (.int (1 : Int32))] [(.ref b10), (.ref b1)])) rfl (by rw [hml]; rfl) (Steps.refl _) (argsL := [(.ref b10)]) (rest := []) (lenOf pd_10 rfl) rfl (by show 2 * 0 + _ ≤ _; exact Nat.le_of_eq rfl) (hb hby at_164) (fun _ _ => ⟨rfl, rfl, (by decide : 8 + 0 ≤ _), (by decide : 37 + 0 ≤ _)⟩)
  dsimp only [Pt.U, Pt.locs, Pt.cells, Pt.slots] at X19 l19 y19 z19 st19 hQ19
  subst l19 y19 z19
  obtain ⟨rfl, Nq19, e19⟩ := hQ19
  have N19 := Fr.app N17 Nq19
  obtain ⟨fs, hr, hrun, hended, hRW⟩ := X19.leaveW (s := s) hS5 (by rw [e19]; exact (Nat.le_trans (Nat.le_trans (Nat.le_trans (Nat.le_trans (Nat.le_refl _) E10.1) Kp11.1) Kp13.1) Kp17.1)) (v := some (.int (1 : Int32))) (fun h => by rw [Bd.returns] at h; cases h)
  refine ⟨_, _, pre0 _ ?_, hrun, hended, _, _, rfl, ?_, hRW.1, hRW.2.1, hRW.2.2.1, hRW.2.2.2.mono (by decide) (by decide)⟩
  · show Steps p.tables e below (s₁.setTop (mkF m 0 #[.val (.int ja), .val (.int jb), .unset, .unset, .unset, .unset, .unset, .unset] [])) _
    refine stp _ ?_
    show Steps p.tables e below (s₁.setTop (mkF m 20 #[.val (.int ja), .val (.int jb), .val (.int kk), .unset, .unset, .unset, .unset, .unset] [])) _
    refine XS.iloadN X0.here hx rfl (hb hby at_20) rfl ?_
    show Steps p.tables e below (s₁.setTop (mkF m 21 #[.val (.int ja), .val (.int jb), .val (.int kk), .unset, .unset, .unset, .unset, .unset] [(.int jb)])) _
    refine XS.bipush X0.here hx rfl (hb hby at_21) ?_
    show Steps p.tables e below (s₁.setTop (mkF m 23 #[.val (.int ja), .val (.int jb), .val (.int kk), .unset, .unset, .unset, .unset, .unset] [(.int (7 : Int32)), (.int jb)])) _
    refine XS.iand X0.here hx rfl (hb hby at_23) rfl ?_
    show Steps p.tables e below (s₁.setTop (mkF m 24 #[.val (.int ja), .val (.int jb), .val (.int kk), .unset, .unset, .unset, .unset, .unset] [(.int (jb &&& (7 : Int32)))])) _
    rw [hn]
    show Steps p.tables e below (s₁.setTop (mkF m 24 #[.val (.int ja), .val (.int jb), .val (.int kk), .unset, .unset, .unset, .unset, .unset] [(.int (2 : Int32))])) _
    refine XS.istoreN X0.here hx rfl (hb hby at_24) rfl (l' := #[.val (.int ja), .val (.int jb), .val (.int kk), .val (.int (2 : Int32)), .unset, .unset, .unset, .unset]) rfl ?_
    show Steps p.tables e below (s₁.setTop (mkF m 25 #[.val (.int ja), .val (.int jb), .val (.int kk), .val (.int (2 : Int32)), .unset, .unset, .unset, .unset] [])) _
    refine st1 _ ?_
    show Steps p.tables e below (T1.setTop (mkF m 28 #[.val (.int ja), .val (.int jb), .val (.int kk), .val (.int (2 : Int32)), .unset, .unset, .unset, .unset] [(.ref b1)])) _
    refine XS.dup X1.here hx rfl (hb hby at_28) rfl rfl ?_
    show Steps p.tables e below (T1.setTop (mkF m 29 #[.val (.int ja), .val (.int jb), .val (.int kk), .val (.int (2 : Int32)), .unset, .unset, .unset, .unset] [(.ref b1), (.ref b1)])) _
    refine XS.iloadN X1.here hx rfl (hb hby at_29) rfl ?_
    show Steps p.tables e below (T1.setTop (mkF m 30 #[.val (.int ja), .val (.int jb), .val (.int kk), .val (.int (2 : Int32)), .unset, .unset, .unset, .unset] [(.int kk), (.ref b1), (.ref b1)])) _
    refine st2.trans ?_
    show Steps p.tables e below (T2.setTop (mkF m 33 #[.val (.int ja), .val (.int jb), .val (.int kk), .val (.int (2 : Int32)), .unset, .unset, .unset, .unset] [(.ref b1)])) _
    refine XS.astore X2.here hx rfl (hb hby at_33) rfl rfl (l' := #[.val (.int ja), .val (.int jb), .val (.int kk), .val (.int (2 : Int32)), .val (.ref b1), .unset, .unset, .unset]) rfl ?_
    show Steps p.tables e below (T2.setTop (mkF m 35 #[.val (.int ja), .val (.int jb), .val (.int kk), .val (.int (2 : Int32)), .val (.ref b1), .unset, .unset, .unset] [])) _
    refine st3 _ ?_
    show Steps p.tables e below (T3.setTop (mkF m 38 #[.val (.int ja), .val (.int jb), .val (.int kk), .val (.int (2 : Int32)), .val (.ref b1), .unset, .unset, .unset] [(.ref b3)])) _
    refine XS.dup X3.here hx rfl (hb hby at_38) rfl rfl ?_
    show Steps p.tables e below (T3.setTop (mkF m 39 #[.val (.int ja), .val (.int jb), .val (.int kk), .val (.int (2 : Int32)), .val (.ref b1), .unset, .unset, .unset] [(.ref b3), (.ref b3)])) _
    refine XS.iconst X3.here hx rfl (hb hby at_39) ?_
    show Steps p.tables e below (T3.setTop (mkF m 40 #[.val (.int ja), .val (.int jb), .val (.int kk), .val (.int (2 : Int32)), .val (.ref b1), .unset, .unset, .unset] [(.int (0 : Int32)), (.ref b3), (.ref b3)])) _
    refine st4 _ ?_
    show Steps p.tables e below (T4.setTop (mkF m 42 #[.val (.int ja), .val (.int jb), .val (.int kk), .val (.int (2 : Int32)), .val (.ref b1), .unset, .unset, .unset] [(.ref a4), (.int (0 : Int32)), (.ref b3), (.ref b3)])) _
    refine XS.dconst1 X4.here hx rfl (hb hby at_42) (v := 4607182418800017408) rfl ?_
    show Steps p.tables e below (T4.setTop (mkF m 43 #[.val (.int ja), .val (.int jb), .val (.int kk), .val (.int (2 : Int32)), .val (.ref b1), .unset, .unset, .unset] [(.double 4607182418800017408), (.ref a4), (.int (0 : Int32)), (.ref b3), (.ref b3)])) _
    refine st5.trans ?_
    show Steps p.tables e below (T5.setTop (mkF m 46 #[.val (.int ja), .val (.int jb), .val (.int kk), .val (.int (2 : Int32)), .val (.ref b1), .unset, .unset, .unset] [(.ref b3)])) _
    refine XS.astore X5.here hx rfl (hb hby at_46) rfl rfl (l' := #[.val (.int ja), .val (.int jb), .val (.int kk), .val (.int (2 : Int32)), .val (.ref b1), .val (.ref b3), .unset, .unset]) rfl ?_
    show Steps p.tables e below (T5.setTop (mkF m 48 #[.val (.int ja), .val (.int jb), .val (.int kk), .val (.int (2 : Int32)), .val (.ref b1), .val (.ref b3), .unset, .unset] [])) _
    refine st10 _ ?_
    show Steps p.tables e below (T10.setTop (mkF m 51 #[.val (.int ja), .val (.int jb), .val (.int kk), .val (.int (2 : Int32)), .val (.ref b1), .val (.ref b3), .unset, .unset] [(.ref b10)])) _
    refine XS.dup X10.here hx rfl (hb hby at_51) rfl rfl ?_
    show Steps p.tables e below (T10.setTop (mkF m 52 #[.val (.int ja), .val (.int jb), .val (.int kk), .val (.int (2 : Int32)), .val (.ref b1), .val (.ref b3), .unset, .unset] [(.ref b10), (.ref b10)])) _
    refine st11.trans ?_
    show Steps p.tables e below (T11.setTop (mkF m 55 #[.val (.int ja), .val (.int jb), .val (.int kk), .val (.int (2 : Int32)), .val (.ref b1), .val (.ref b3), .unset, .unset] [(.ref b10)])) _
    refine XS.astore X11.here hx rfl (hb hby at_55) rfl rfl (l' := #[.val (.int ja), .val (.int jb), .val (.int kk), .val (.int (2 : Int32)), .val (.ref b1), .val (.ref b3), .val (.ref b10), .unset]) rfl ?_
    show Steps p.tables e below (T11.setTop (mkF m 57 #[.val (.int ja), .val (.int jb), .val (.int kk), .val (.int (2 : Int32)), .val (.ref b1), .val (.ref b3), .val (.ref b10), .unset] [])) _
    refine XS.iloadN X11.here hx rfl (hb hby at_57) rfl ?_
    show Steps p.tables e below (T11.setTop (mkF m 58 #[.val (.int ja), .val (.int jb), .val (.int kk), .val (.int (2 : Int32)), .val (.ref b1), .val (.ref b3), .val (.ref b10), .unset] [(.int (2 : Int32))])) _
    refine XS.ifNo X11.here hx rfl (hb hby at_58) rfl ((if0 _ _).trans (tlt (by decide : (0 : Int32) < (2 : Int32))).2.2.2) ?_
    show Steps p.tables e below (T11.setTop (mkF m 61 #[.val (.int ja), .val (.int jb), .val (.int kk), .val (.int (2 : Int32)), .val (.ref b1), .val (.ref b3), .val (.ref b10), .unset] [])) _
    refine XS.aload X11.here hx rfl (hb hby at_61) rfl rfl ?_
    show Steps p.tables e below (T11.setTop (mkF m 63 #[.val (.int ja), .val (.int jb), .val (.int kk), .val (.int (2 : Int32)), .val (.ref b1), .val (.ref b3), .val (.ref b10), .unset] [(.ref b10)])) _
    refine XS.aload X11.here hx rfl (hb hby at_63) rfl rfl ?_
    show Steps p.tables e below (T11.setTop (mkF m 65 #[.val (.int ja), .val (.int jb), .val (.int kk), .val (.int (2 : Int32)), .val (.ref b1), .val (.ref b3), .val (.ref b10), .unset] [(.ref b3), (.ref b10)])) _
    refine st13.trans ?_
    show Steps p.tables e below (T13.setTop (mkF m 68 #[.val (.int ja), .val (.int jb), .val (.int kk), .val (.int (2 : Int32)), .val (.ref b1), .val (.ref b3), .val (.ref b10), .unset] [(.int (1 : Int32))])) _
    refine XS.pop X13.here hx rfl (hb hby at_68) rfl rfl ?_
    show Steps p.tables e below (T13.setTop (mkF m 69 #[.val (.int ja), .val (.int jb), .val (.int kk), .val (.int (2 : Int32)), .val (.ref b1), .val (.ref b3), .val (.ref b10), .unset] [])) _
    refine XS.iloadN X13.here hx rfl (hb hby at_69) rfl ?_
    show Steps p.tables e below (T13.setTop (mkF m 70 #[.val (.int ja), .val (.int jb), .val (.int kk), .val (.int (2 : Int32)), .val (.ref b1), .val (.ref b3), .val (.ref b10), .unset] [(.int (2 : Int32))])) _
    refine XS.iconst X13.here hx rfl (hb hby at_70) ?_
    show Steps p.tables e below (T13.setTop (mkF m 71 #[.val (.int ja), .val (.int jb), .val (.int kk), .val (.int (2 : Int32)), .val (.ref b1), .val (.ref b3), .val (.ref b10), .unset] [(.int (1 : Int32)), (.int (2 : Int32))])) _
    refine XS.icmpNo X13.here hx rfl (hb hby at_71) rfl (tlt (by decide : (1 : Int32) < (2 : Int32))).2.2.2 ?_
    show Steps p.tables e below (T13.setTop (mkF m 74 #[.val (.int ja), .val (.int jb), .val (.int kk), .val (.int (2 : Int32)), .val (.ref b1), .val (.ref b3), .val (.ref b10), .unset] [])) _
    refine XS.aload X13.here hx rfl (hb hby at_74) rfl rfl ?_
    show Steps p.tables e below (T13.setTop (mkF m 76 #[.val (.int ja), .val (.int jb), .val (.int kk), .val (.int (2 : Int32)), .val (.ref b1), .val (.ref b3), .val (.ref b10), .unset] [(.ref b10)])) _
    refine XS.aload X13.here hx rfl (hb hby at_76) rfl rfl ?_
    show Steps p.tables e below (T13.setTop (mkF m 78 #[.val (.int ja), .val (.int jb), .val (.int kk), .val (.int (2 : Int32)), .val (.ref b1), .val (.ref b3), .val (.ref b10), .unset] [(.ref b3), (.ref b10)])) _
    refine st17.trans ?_
    show Steps p.tables e below (T17.setTop (mkF m 81 #[.val (.int ja), .val (.int jb), .val (.int kk), .val (.int (2 : Int32)), .val (.ref b1), .val (.ref b3), .val (.ref b10), .unset] [(.int (1 : Int32))])) _
    refine XS.pop X17.here hx rfl (hb hby at_81) rfl rfl ?_
    show Steps p.tables e below (T17.setTop (mkF m 82 #[.val (.int ja), .val (.int jb), .val (.int kk), .val (.int (2 : Int32)), .val (.ref b1), .val (.ref b3), .val (.ref b10), .unset] [])) _
    refine XS.iloadN X17.here hx rfl (hb hby at_82) rfl ?_
    show Steps p.tables e below (T17.setTop (mkF m 83 #[.val (.int ja), .val (.int jb), .val (.int kk), .val (.int (2 : Int32)), .val (.ref b1), .val (.ref b3), .val (.ref b10), .unset] [(.int (2 : Int32))])) _
    refine XS.iconst X17.here hx rfl (hb hby at_83) ?_
    show Steps p.tables e below (T17.setTop (mkF m 84 #[.val (.int ja), .val (.int jb), .val (.int kk), .val (.int (2 : Int32)), .val (.ref b1), .val (.ref b3), .val (.ref b10), .unset] [(.int (2 : Int32)), (.int (2 : Int32))])) _
    refine XS.icmpYes X17.here hx rfl (pc0 := 84) (pc' := 95) rfl (hb hby at_84) rfl (flt (by decide : ¬ ((2 : Int32) < (2 : Int32)))).2.2.2 (by decide) (by decide) ?_
    show Steps p.tables e below (T17.setTop (mkF m 95 #[.val (.int ja), .val (.int jb), .val (.int kk), .val (.int (2 : Int32)), .val (.ref b1), .val (.ref b3), .val (.ref b10), .unset] [])) _
    refine XS.iloadN X17.here hx rfl (hb hby at_95) rfl ?_
    show Steps p.tables e below (T17.setTop (mkF m 96 #[.val (.int ja), .val (.int jb), .val (.int kk), .val (.int (2 : Int32)), .val (.ref b1), .val (.ref b3), .val (.ref b10), .unset] [(.int (2 : Int32))])) _
    refine XS.iconst X17.here hx rfl (hb hby at_96) ?_
    show Steps p.tables e below (T17.setTop (mkF m 97 #[.val (.int ja), .val (.int jb), .val (.int kk), .val (.int (2 : Int32)), .val (.ref b1), .val (.ref b3), .val (.ref b10), .unset] [(.int (3 : Int32)), (.int (2 : Int32))])) _
    refine XS.icmpYes X17.here hx rfl (pc0 := 97) (pc' := 108) rfl (hb hby at_97) rfl (flt (by decide : ¬ ((3 : Int32) < (2 : Int32)))).2.2.2 (by decide) (by decide) ?_
    show Steps p.tables e below (T17.setTop (mkF m 108 #[.val (.int ja), .val (.int jb), .val (.int kk), .val (.int (2 : Int32)), .val (.ref b1), .val (.ref b3), .val (.ref b10), .unset] [])) _
    refine XS.iloadN X17.here hx rfl (hb hby at_108) rfl ?_
    show Steps p.tables e below (T17.setTop (mkF m 109 #[.val (.int ja), .val (.int jb), .val (.int kk), .val (.int (2 : Int32)), .val (.ref b1), .val (.ref b3), .val (.ref b10), .unset] [(.int (2 : Int32))])) _
    refine XS.iconst X17.here hx rfl (hb hby at_109) ?_
    show Steps p.tables e below (T17.setTop (mkF m 110 #[.val (.int ja), .val (.int jb), .val (.int kk), .val (.int (2 : Int32)), .val (.ref b1), .val (.ref b3), .val (.ref b10), .unset] [(.int (4 : Int32)), (.int (2 : Int32))])) _
    refine XS.icmpYes X17.here hx rfl (pc0 := 110) (pc' := 121) rfl (hb hby at_110) rfl (flt (by decide : ¬ ((4 : Int32) < (2 : Int32)))).2.2.2 (by decide) (by decide) ?_
    show Steps p.tables e below (T17.setTop (mkF m 121 #[.val (.int ja), .val (.int jb), .val (.int kk), .val (.int (2 : Int32)), .val (.ref b1), .val (.ref b3), .val (.ref b10), .unset] [])) _
    refine XS.iloadN X17.here hx rfl (hb hby at_121) rfl ?_
    show Steps p.tables e below (T17.setTop (mkF m 122 #[.val (.int ja), .val (.int jb), .val (.int kk), .val (.int (2 : Int32)), .val (.ref b1), .val (.ref b3), .val (.ref b10), .unset] [(.int (2 : Int32))])) _
    refine XS.iconst X17.here hx rfl (hb hby at_122) ?_
    show Steps p.tables e below (T17.setTop (mkF m 123 #[.val (.int ja), .val (.int jb), .val (.int kk), .val (.int (2 : Int32)), .val (.ref b1), .val (.ref b3), .val (.ref b10), .unset] [(.int (5 : Int32)), (.int (2 : Int32))])) _
    refine XS.icmpYes X17.here hx rfl (pc0 := 123) (pc' := 134) rfl (hb hby at_123) rfl (flt (by decide : ¬ ((5 : Int32) < (2 : Int32)))).2.2.2 (by decide) (by decide) ?_
    show Steps p.tables e below (T17.setTop (mkF m 134 #[.val (.int ja), .val (.int jb), .val (.int kk), .val (.int (2 : Int32)), .val (.ref b1), .val (.ref b3), .val (.ref b10), .unset] [])) _
    refine XS.iloadN X17.here hx rfl (hb hby at_134) rfl ?_
    show Steps p.tables e below (T17.setTop (mkF m 135 #[.val (.int ja), .val (.int jb), .val (.int kk), .val (.int (2 : Int32)), .val (.ref b1), .val (.ref b3), .val (.ref b10), .unset] [(.int (2 : Int32))])) _
    refine XS.bipush X17.here hx rfl (hb hby at_135) ?_
    show Steps p.tables e below (T17.setTop (mkF m 137 #[.val (.int ja), .val (.int jb), .val (.int kk), .val (.int (2 : Int32)), .val (.ref b1), .val (.ref b3), .val (.ref b10), .unset] [(.int (6 : Int32)), (.int (2 : Int32))])) _
    refine XS.icmpYes X17.here hx rfl (pc0 := 137) (pc' := 148) rfl (hb hby at_137) rfl (flt (by decide : ¬ ((6 : Int32) < (2 : Int32)))).2.2.2 (by decide) (by decide) ?_
    show Steps p.tables e below (T17.setTop (mkF m 148 #[.val (.int ja), .val (.int jb), .val (.int kk), .val (.int (2 : Int32)), .val (.ref b1), .val (.ref b3), .val (.ref b10), .unset] [])) _
    refine XS.iloadN X17.here hx rfl (hb hby at_148) rfl ?_
    show Steps p.tables e below (T17.setTop (mkF m 149 #[.val (.int ja), .val (.int jb), .val (.int kk), .val (.int (2 : Int32)), .val (.ref b1), .val (.ref b3), .val (.ref b10), .unset] [(.int (2 : Int32))])) _
    refine XS.iloadN X17.here hx rfl (hb hby at_149) rfl ?_
    show Steps p.tables e below (T17.setTop (mkF m 150 #[.val (.int ja), .val (.int jb), .val (.int kk), .val (.int (2 : Int32)), .val (.ref b1), .val (.ref b3), .val (.ref b10), .unset] [(.int kk), (.int (2 : Int32))])) _
    refine XS.icmpNo X17.here hx rfl (hb hby at_150) rfl (flt hrd).2.2.1 ?_
    show Steps p.tables e below (T17.setTop (mkF m 153 #[.val (.int ja), .val (.int jb), .val (.int kk), .val (.int (2 : Int32)), .val (.ref b1), .val (.ref b3), .val (.ref b10), .unset] [])) _
    refine XS.iconst X17.here hx rfl (hb hby at_153) ?_
    show Steps p.tables e below (T17.setTop (mkF m 154 #[.val (.int ja), .val (.int jb), .val (.int kk), .val (.int (2 : Int32)), .val (.ref b1), .val (.ref b3), .val (.ref b10), .unset] [(.int (1 : Int32))])) _
    refine XS.goto X17.here hx rfl (pc0 := 154) (pc' := 158) rfl (hb hby at_154) (by decide) (by decide) ?_
    show Steps p.tables e below (T17.setTop (mkF m 158 #[.val (.int ja), .val (.int jb), .val (.int kk), .val (.int (2 : Int32)), .val (.ref b1), .val (.ref b3), .val (.ref b10), .unset] [(.int (1 : Int32))])) _
    refine XS.istore X17.here hx rfl (hb hby at_158) rfl (l' := #[.val (.int ja), .val (.int jb), .val (.int kk), .val (.int (2 : Int32)), .val (.ref b1), .val (.ref b3), .val (.ref b10), .val (.int (1 : Int32))]) rfl ?_
    show Steps p.tables e below (T17.setTop (mkF m 160 #[.val (.int ja), .val (.int jb), .val (.int kk), .val (.int (2 : Int32)), .val (.ref b1), .val (.ref b3), .val (.ref b10), .val (.int (1 : Int32))] [])) _
    refine XS.aload X17.here hx rfl (hb hby at_160) rfl rfl ?_
    show Steps p.tables e below (T17.setTop (mkF m 162 #[.val (.int ja), .val (.int jb), .val (.int kk), .val (.int (2 : Int32)), .val (.ref b1), .val (.ref b3), .val (.ref b10), .val (.int (1 : Int32))] [(.ref b1)])) _
    refine XS.aload X17.here hx rfl (hb hby at_162) rfl rfl ?_
    show Steps p.tables e below (T17.setTop (mkF m 164 #[.val (.int ja), .val (.int jb), .val (.int kk), .val (.int (2 : Int32)), .val (.ref b1), .val (.ref b3), .val (.ref b10), .val (.int (1 : Int32))] [(.ref b10), (.ref b1)])) _
    refine st19.trans ?_
    show Steps p.tables e below (T19.setTop (mkF m 167 #[.val (.int ja), .val (.int jb), .val (.int kk), .val (.int (2 : Int32)), .val (.ref b1), .val (.ref b3), .val (.ref b10), .val (.int (1 : Int32))] [(.int (1 : Int32))])) _
    refine XS.iload X19.here hx rfl (hb hby at_167) rfl ?_
    show Steps p.tables e below (T19.setTop (mkF m 169 #[.val (.int ja), .val (.int jb), .val (.int kk), .val (.int (2 : Int32)), .val (.ref b1), .val (.ref b3), .val (.ref b10), .val (.int (1 : Int32))] [(.int (1 : Int32)), (.int (1 : Int32))])) _
    refine XS.icmpNo X19.here hx rfl (hb hby at_169) rfl (teq (rfl : (1 : Int32) = (1 : Int32))).2 ?_
    show Steps p.tables e below (T19.setTop (mkF m 172 #[.val (.int ja), .val (.int jb), .val (.int kk), .val (.int (2 : Int32)), .val (.ref b1), .val (.ref b3), .val (.ref b10), .val (.int (1 : Int32))] [])) _
    refine XS.iconst X19.here hx rfl (hb hby at_172) ?_
    show Steps p.tables e below (T19.setTop (mkF m 173 #[.val (.int ja), .val (.int jb), .val (.int kk), .val (.int (2 : Int32)), .val (.ref b1), .val (.ref b3), .val (.ref b10), .val (.int (1 : Int32))] [(.int (1 : Int32))])) _
    refine XS.goto X19.here hx rfl (pc0 := 173) (pc' := 177) rfl (hb hby at_173) (by decide) (by decide) ?_
    show Steps p.tables e below (T19.setTop (mkF m 177 #[.val (.int ja), .val (.int jb), .val (.int kk), .val (.int (2 : Int32)), .val (.ref b1), .val (.ref b3), .val (.ref b10), .val (.int (1 : Int32))] [(.int (1 : Int32))])) _
    exact retN X19 hx (t := .boolean) Bd.returns (by simp) (hb hby at_177) hr
  · show Q_rm0_2f Z ja jb kk de kd h0 n0 _ T19.heap _
    rw [e19]
    exact ⟨rfl, N19⟩
def Q_rm0_3t (Z : State) (ja : Int32) (jb : Int32) (kk : Int32) (de : Addr) (kd : ClassId) (h0 : Heap) (n0 : Nat) (v : Option Value) (h : Heap) (L : List Loc) : Prop := v = some (.int (1 : Int32)) ∧ Fr n0 L
theorem ef_rm0_3t (m : MethodId) (ja : Int32) (jb : Int32) : entryFrame m #[(.int ja), (.int jb)] maxLocals = mkF m 0 #[.val (.int ja), .val (.int jb), .unset, .unset, .unset, .unset, .unset, .unset] [] := by first | (simp [entryFrame, mkF, argsToLocals, Value.category, maxLocals]; done) | rfl
set_option maxRecDepth 65536 in
set_option maxHeartbeats 40000000 in
theorem rm0_3t (l : Launch) (Z : State) (a0 : Array Value) (hw : ∀ d ∈ tables_1, d.before a0 Z = true) (ws : List Jvm.Cond) (ja : Int32) (jb : Int32) (kk : Int32) (de : Addr) (kd : ClassId) (h0 : Heap) (n0 : Nat) (Z0 : n0 ≤ h0.size) (hwS : ∀ a ∈ Bundle.stringAtoms, a.before a0 Z = true) (hn0 : n0 = h0.size) (hcn : Jvm.Lit.constHeld Z "com/example/sortition/sortition/SlotsAllowsPinLaw" 15) (hcw : Jvm.Lit.compactW.before a0 Z = true) (S_DE : Sta Z h0 "java/util/ArrayList" "DEFAULTCAPACITY_EMPTY_ELEMENTDATA" "[Ljava/lang/Object;" (.ref de)) (V_de : Arv Z h0 de kd (.object "java/lang/Object") (0 : Int32) [] .null) (hkk : (own_k ja jb) = kk) (gkk : ¬ (kk < (0 : Int32))) (hn : (jb &&& (7 : Int32)) = (3 : Int32)) (hrd : kk < (3 : Int32)) :
    MetFree l x (head1 (Jvm.Cond.code x code maxLocals ret :: ws) room_1) (fun a U => a = #[(.int ja), (.int jb)] ∧ Z.Warmed39 U.vm ∧ U.heap = h0 ∧ U.vm.interned = Z.vm.interned ∧ (∀ (b : Addr) (cl : Cell), Z.heap[b]? = some cl → U.heap[b]? = some cl)) (fun _ _ _ _ _ => True) (fun _ U o U' => ∃ v L, o = .returned v ∧ Q_rm0_3t Z ja jb kk de kd h0 n0 v U'.heap L ∧ ReturnedEndW U o U' L room_1.cells room_1.slots) := by
  refine MetFree.of_bodySF (plainFor_of_name pn_8) hisR ?_
  intro p e s m args below meth c s₁ Bd hml0 hP hK
  obtain ⟨rfl, hZ, hh, hI0, hK0⟩ := hP
  have hx := Bd.exec
  have hby := Bd.bytes
  have hml : c.maxLocals = 8 := hml0
  have hown : s.vm.findClass "com/example/sortition/sortition/SlotsAllowsPinLaw" = some m.cls := findClass_of_methodNamed Bd.named
  have hnm := (name_of_methodNamed Bd.named Bd.method).1
  have X0 : Stand p l e room_1 s m #[(.int ja), (.int jb)] below meth c s₁ [] 0 0 := Stand.of_body Bd
  have e0 : s₁.heap = h0 := by rw [← hh, Bd.state]; rfl
  have N0 := Fr.nil n0
  have hS0 := (State.WarmedH.refl s).since 0
  have pre0 : ∀ t, Steps p.tables e below (s₁.setTop (mkF m 0 #[.val (.int ja), .val (.int jb), .unset, .unset, .unset, .unset, .unset, .unset] [])) t → Steps p.tables e below (s₁.setTop (entryFrame m #[(.int ja), (.int jb)] maxLocals)) t := fun t k => castTop (ef_rm0_3t m ja jb) k
  have stp := own_pre ja jb X0 hx hZ hw hby hown
  rw [hkk] at stp
  obtain ⟨T1, h1, X1, e1, E1, A1, D1, -, st1⟩ := newO X0 hx hZ hown (ow hw 0 rfl) (ow hw 1 rfl) (ow hw 2 rfl) e0 (g := (mkF m 25 #[.val (.int ja), .val (.int jb), .val (.int kk), .val (.int (3 : Int32)), .unset, .unset, .unset, .unset] [])) rfl (hb hby at_25) (by decide) (by decide)
  obtain ⟨b1, g1⟩ : ∃ z, z = h0.size := ⟨_, rfl⟩
  rw [← g1] at A1 D1 st1
  have F1_3 : Fld Z h1 b1 "com/example/sortition/sortition/Slots" "size" "I" (.int (0 : Int32)) := D1 (Or.inr (ow hw 15 rfl)) (ty := .int) (by decide)
  obtain ⟨_, _, ⟨T2, L2, k2, n2⟩, -, X2, ⟨Lc2, hQ2, l2, y2, z2⟩, st2⟩ := X1.specialBack hx (y := (⟨"com/example/sortition/sortition/Slots", "<init>", "(I)V"⟩ : MethodName)) rfl hown (mvT hZ (ow hw 3 rfl)) (mvT hZ (ow hw 4 rfl)) (mvT hZ (ow hw 5 rfl)) (by decide) (backOf (W := 1) (rmSl l Z a0 hw [] b1 kk (.int (0 : Int32)) h1 n0 (Nat.le_trans Z0 E1.1) gkk F1_3 A1 (Nat.le_trans Z0 (Nat.le_of_eq g1.symm))) hZ (ow hw 5 rfl) (ow hw 2 rfl) (by decide) (by decide)) (g := (mkF m 30 #[.val (.int ja), .val (.int jb), .val (.int kk), .val (.int (3 : Int32)), .unset, .unset, .unset, .unset] [(.int kk), (.ref b1), (.ref b1)])) rfl (by rw [hml]; rfl) (Steps.refl _) (a := b1) (argsL := [(.int kk)]) (rest := [(.ref b1)]) (lenOf pd_8 rfl) rfl (by show 2 * 0 + _ ≤ _; exact Nat.le_of_eq rfl) (hb hby at_30) (fun _ _ => ⟨rfl, e1, (by decide : 1 + 0 ≤ _), (by decide : 1 + 0 ≤ _)⟩)
  dsimp only [Pt.U, Pt.locs, Pt.cells, Pt.slots] at X2 l2 y2 z2 st2 hQ2
  subst l2 y2 z2
  obtain ⟨rfl, Nq2, Kp2, Fq2_0, Fq2_1⟩ := hQ2
  have N2 := Fr.app N0 Nq2
  obtain ⟨T3, h3, X3, e3, E3, A3, D3, -, st3⟩ := newO X2 hx hZ hown (ow hw 16 rfl) (ow hw 17 rfl) (ow hw 18 rfl) rfl (g := (mkF m 35 #[.val (.int ja), .val (.int jb), .val (.int kk), .val (.int (3 : Int32)), .val (.ref b1), .unset, .unset, .unset] [])) rfl (hb hby at_35) (by decide) (by decide)
  obtain ⟨b3, g3⟩ : ∃ z, z = T2.heap.size := ⟨_, rfl⟩
  rw [← g3] at A3 D3 st3
  have F3_5 : Fld Z h3 b3 "com/example/sortition/sortition/Element" "index" "I" (.int (0 : Int32)) := D3 (Or.inr (ow hw 44 rfl)) (ty := .int) (by decide)
  have F3_6 : Fld Z h3 b3 "com/example/sortition/sortition/Element" "id" "Ljava/lang/String;" .null := D3 (Or.inr (ow hw 46 rfl)) (ty := (.object "java/lang/String")) (by decide)
  have F3_7 : Fld Z h3 b3 "com/example/sortition/sortition/Element" "value" "D" (.double 0) := D3 (Or.inr (ow hw 48 rfl)) (ty := .double) (by decide)
  obtain ⟨a4, T4, h4, k4, b4, kc4, X4, e4, E4, hS4, hk4, hZ4, hown4, A4, -, Fv4, V4, -, -, -, st4⟩ := ldcSV (s := s) (vm0 := s.vm) X3 hx hZ hown (ow hw 19 rfl) hwS e3 hS0 (Nat.le_trans (Nat.le_trans (Nat.le_trans (Nat.zero_le _) E1.1) Kp2.1) E3.1) (by rw [hh, ← hn0]; exact N2) hK0 (⟨#[], by simpa using hI0, fun q hq => by simp at hq⟩ : IB Z s.vm []) (by simp) hcn hcw (vs := [(.int (120 : Int32))]) (z := (1 : Int32)) ⟨by decide, by decide⟩ (by decide) rfl (g := (mkF m 40 #[.val (.int ja), .val (.int jb), .val (.int kk), .val (.int (3 : Int32)), .val (.ref b1), .unset, .unset, .unset] [(.int (0 : Int32)), (.ref b3), (.ref b3)])) rfl (hb hby at_40) (n := 4) (by decide) (by decide) (by decide) (by decide)
  have f6 : Fld Z h4 b3 "com/example/sortition/sortition/Element" "index" "I" (.int (0 : Int32)) := (F3_5.ext E4)
  have f7 : Exa Z h4 b3 "com/example/sortition/sortition/Element" := (A3.ext E4)
  have f8 : Fld Z h4 b3 "com/example/sortition/sortition/Element" "id" "Ljava/lang/String;" .null := (F3_6.ext E4)
  have f9 : Fld Z h4 b3 "com/example/sortition/sortition/Element" "value" "D" (.double 0) := (F3_7.ext E4)
  obtain ⟨_, _, ⟨T5, L5, k5, n5⟩, -, X5, hSq5, hgq5, ⟨Lc5, hQ5, l5, y5, z5⟩, st5⟩ := X4.specialBackS hx (y := (⟨"com/example/sortition/sortition/Element", "<init>", "(ILjava/lang/String;D)V"⟩ : MethodName)) rfl hown4 (mvT hZ4 (ow hw 27 rfl)) (mvT hZ4 (ow hw 28 rfl)) (mvT hZ4 (ow hw 29 rfl)) (by decide) (backOfS (W := 1) (rmEI l Z a0 hw [] b3 (0 : Int32) a4 4607182418800017408 b4 kc4 [(.int (120 : Int32))] (.int (0 : Int32)) .null (.double 0) h4 n0 (Nat.le_trans (Nat.le_trans (Nat.le_trans (Nat.le_trans Z0 E1.1) Kp2.1) E3.1) E4.1) hwS A4 Fv4 V4 (by first | assumption | decide) (by decide +kernel) (by decide +kernel) own_nn1 f6 f7 (Nat.le_trans (Nat.le_trans (Nat.le_trans Z0 E1.1) Kp2.1) (Nat.le_of_eq g3.symm)) f8 f9) hZ4 (ow hw 29 rfl) (ow hw 18 rfl) (by decide) (by decide)) (g := (mkF m 43 #[.val (.int ja), .val (.int jb), .val (.int kk), .val (.int (3 : Int32)), .val (.ref b1), .unset, .unset, .unset] [(.double 4607182418800017408), (.ref a4), (.int (0 : Int32)), (.ref b3), (.ref b3)])) rfl (by rw [hml]; rfl) (Steps.refl _) (a := b3) (argsL := [(.int (0 : Int32)), (.ref a4), (.double 4607182418800017408)]) (rest := [(.ref b3)]) (lenOf pd_9 rfl) rfl (by show 2 * 0 + _ ≤ _; exact Nat.le_of_eq rfl) (hb hby at_43) (fun _ _ => ⟨rfl, e4, (by decide : 4 + 2 ≤ _), (by decide : 12 + 12 ≤ _)⟩)
  dsimp only [Pt.U, Pt.locs, Pt.cells, Pt.slots] at X5 l5 y5 z5 st5 hQ5 hSq5 hgq5
  subst l5 y5 z5
  obtain ⟨X5, hS5, hZ5, hown5⟩ := rebS (s := s) (vm0 := T4.vm) hS4 (by rw [e4]; exact hk4) X5 hSq5 hgq5 hZ4 hown4
  obtain ⟨rfl, Nq5, Kp5, Fq5_0, Fq5_1, Fq5_2⟩ := hQ5
  have N5 := Fr.app N2 Nq5
  obtain ⟨T10, h10, X10, e10, E10, A10, D10, -, st10⟩ := newO X5 hx hZ5 hown5 (ow hw 49 rfl) (ow hw 50 rfl) (ow hw 51 rfl) rfl (g := (mkF m 48 #[.val (.int ja), .val (.int jb), .val (.int kk), .val (.int (3 : Int32)), .val (.ref b1), .val (.ref b3), .unset, .unset] [])) rfl (hb hby at_48) (by decide) (by decide)
  obtain ⟨b10, g10⟩ : ∃ z, z = T5.heap.size := ⟨_, rfl⟩
  rw [← g10] at A10 D10 st10
  have F10_12 : Fld Z h10 b10 "java/util/AbstractList" "modCount" "I" (.int (0 : Int32)) := D10 (Or.inl (ow hw 69 rfl)) (ty := .int) (by decide)
  have F10_13 : Fld Z h10 b10 "java/util/ArrayList" "elementData" "[Ljava/lang/Object;" .null := D10 (Or.inl (ow hw 72 rfl)) (ty := (.array (.object "java/lang/Object"))) (by decide)
  have F10_14 : Fld Z h10 b10 "java/util/ArrayList" "size" "I" (.int (0 : Int32)) := D10 (Or.inl (ow hw 81 rfl)) (ty := .int) (by decide)
  have f12 : Sta Z h10 "java/util/ArrayList" "DEFAULTCAPACITY_EMPTY_ELEMENTDATA" "[Ljava/lang/Object;" (.ref de) := ((Sta_keep (((Sta_keep (S_DE.ext E1) Kp2 (nsS A1.nostat ns0)).ext E3).ext E4) Kp5 (nsS f7.nostat ns0)).ext E10)
  obtain ⟨_, _, ⟨T11, L11, k11, n11⟩, -, X11, ⟨Lc11, hQ11, l11, y11, z11⟩, st11⟩ := X10.specialBack hx (y := (⟨"java/util/ArrayList", "<init>", "()V"⟩ : MethodName)) rfl hown5 (mvT hZ5 (ow hw 52 rfl)) (mvT hZ5 (ow hw 53 rfl)) (mvT hZ5 (ow hw 54 rfl)) (by decide) (backOf (W := 1) (rmAL l Z a0 hw [] b10 de (.int (0 : Int32)) .null h10 n0 (Nat.le_trans (Nat.le_trans (Nat.le_trans (Nat.le_trans (Nat.le_trans (Nat.le_trans Z0 E1.1) Kp2.1) E3.1) E4.1) Kp5.1) E10.1) A10 F10_12 F10_13 f12 F10_14 (Nat.le_trans (Nat.le_trans (Nat.le_trans (Nat.le_trans (Nat.le_trans (Nat.le_trans Z0 E1.1) Kp2.1) E3.1) E4.1) Kp5.1) (Nat.le_of_eq g10.symm))) hZ5 (ow hw 54 rfl) (ow hw 51 rfl) (by decide) (by decide)) (g := (mkF m 52 #[.val (.int ja), .val (.int jb), .val (.int kk), .val (.int (3 : Int32)), .val (.ref b1), .val (.ref b3), .unset, .unset] [(.ref b10), (.ref b10)])) rfl (by rw [hml]; rfl) (Steps.refl _) (a := b10) (argsL := []) (rest := [(.ref b10)]) (lenOf pd_0 rfl) rfl (by show 2 * 0 + _ ≤ _; exact Nat.le_of_eq rfl) (hb hby at_52) (fun _ _ => ⟨rfl, e10, (by decide : 7 + 0 ≤ _), (by decide : 27 + 0 ≤ _)⟩)
  dsimp only [Pt.U, Pt.locs, Pt.cells, Pt.slots] at X11 l11 y11 z11 st11 hQ11
  subst l11 y11 z11
  obtain ⟨rfl, Nq11, Kp11, Fq11_0, Fq11_1, Fq11_2, Fq11_3⟩ := hQ11
  have N11 := Fr.app N5 Nq11
  have f14 : Arv Z T11.heap de kd (.object "java/lang/Object") (0 : Int32) [] .null := (((((((V_de.ext E1).keep Kp2 (ninS (Nat.ne_of_lt (Nat.lt_of_lt_of_le V_de.lt (Nat.le_of_eq g1.symm))) nin0)).ext E3).ext E4).keep Kp5 (ninS (Nat.ne_of_lt (Nat.lt_of_lt_of_le ((V_de.ext E1).keep Kp2 (ninS (Nat.ne_of_lt (Nat.lt_of_lt_of_le V_de.lt (Nat.le_of_eq g1.symm))) nin0)).lt (Nat.le_of_eq g3.symm))) nin0)).ext E10).keep Kp11 (ninS (Nat.ne_of_lt (Nat.lt_of_lt_of_le (((((V_de.ext E1).keep Kp2 (ninS (Nat.ne_of_lt (Nat.lt_of_lt_of_le V_de.lt (Nat.le_of_eq g1.symm))) nin0)).ext E3).ext E4).keep Kp5 (ninS (Nat.ne_of_lt (Nat.lt_of_lt_of_le ((V_de.ext E1).keep Kp2 (ninS (Nat.ne_of_lt (Nat.lt_of_lt_of_le V_de.lt (Nat.le_of_eq g1.symm))) nin0)).lt (Nat.le_of_eq g3.symm))) nin0)).lt (Nat.le_of_eq g10.symm))) nin0))
  have f15 : Sta Z T11.heap "java/util/ArrayList" "DEFAULTCAPACITY_EMPTY_ELEMENTDATA" "[Ljava/lang/Object;" (.ref de) := (Sta_keep f12 Kp11 (nsS A10.nostat ns0))
  have f16 : Exa Z T11.heap b3 "com/example/sortition/sortition/Element" := ((Fq5_0.ext E10).keep Kp11)
  obtain ⟨cq13, kq13, q13a, q13b, q13c⟩ := isOf hZ5 rfl Fq11_0
  obtain ⟨_, _, ⟨T13, L13, k13, n13⟩, -, X13, ⟨Lc13, hQ13, l13, y13, z13⟩, st13⟩ := X11.virtualBack hx (y := (⟨"java/util/ArrayList", "add", "(Ljava/lang/Object;)Z"⟩ : MethodName)) (z := (⟨"java/util/ArrayList", "add", "(Ljava/lang/Object;)Z"⟩ : MethodName)) hown5 (mvT hZ5 (ow hw 73 rfl)) (mvT hZ5 (ow hw 74 rfl)) (notFace_of_selects (args := #[]) (mvT hZ5 (ow hw 76 rfl))) (mvT hZ5 (ow hw 76 rfl)) (mvT hZ5 (ow hw 75 rfl)) (by decide) (backOf (W := 0) (rmA0 l Z a0 hw [] b10 b3 de kd (0 : Int32) T11.heap n0 (Nat.le_trans (Nat.le_trans (Nat.le_trans (Nat.le_trans (Nat.le_trans (Nat.le_trans (Nat.le_trans Z0 E1.1) Kp2.1) E3.1) E4.1) Kp5.1) E10.1) Kp11.1) Fq11_1 Fq11_0 Fq11_2 Fq11_3 f14 f15 f16 (Nat.le_trans (Nat.le_trans (Nat.le_trans (Nat.le_trans (Nat.le_trans (Nat.le_trans Z0 E1.1) Kp2.1) E3.1) E4.1) Kp5.1) (Nat.le_of_eq g10.symm)) (Nat.ne_of_lt (Nat.lt_of_lt_of_le (((((V_de.ext E1).keep Kp2 (ninS (Nat.ne_of_lt (Nat.lt_of_lt_of_le V_de.lt (Nat.le_of_eq g1.symm))) nin0)).ext E3).ext E4).keep Kp5 (ninS (Nat.ne_of_lt (Nat.lt_of_lt_of_le ((V_de.ext E1).keep Kp2 (ninS (Nat.ne_of_lt (Nat.lt_of_lt_of_le V_de.lt (Nat.le_of_eq g1.symm))) nin0)).lt (Nat.le_of_eq g3.symm))) nin0)).lt (Nat.le_of_eq g10.symm)))) hZ5 (ow hw 77 rfl) (ow hw 51 rfl) (by decide) (by decide)) q13a q13c (g := (mkF m 65 #[.val (.int ja), .val (.int jb), .val (.int kk), .val (.int (3 : Int32)), .val (.ref b1), .val (.ref b3), .val (.ref b10), .unset] [(.ref b3), (.ref b10)])) rfl (by rw [hml]; rfl) (Steps.refl _) (argsL := [(.ref b3)]) (rest := []) (lenOf pd_11 rfl) rfl (by show 2 * 0 + _ ≤ _; exact Nat.le_of_eq rfl) (hb hby at_65) (fun _ _ => ⟨rfl, rfl, (by decide : 7 + 1 ≤ _), (by decide : 27 + 10 ≤ _)⟩)
  dsimp only [Pt.U, Pt.locs, Pt.cells, Pt.slots] at X13 l13 y13 z13 st13 hQ13
  subst l13 y13 z13
  obtain ⟨nb_13, ka_13, rfl, Nq13, gb13_0, Kp13, Fq13_0, Fq13_1, Fq13_2, Fq13_3, Fq13_4, Pq13_0⟩ := hQ13
  have N13 := Fr.app N11 Nq13
  have f18 : Exa Z T13.heap b3 "com/example/sortition/sortition/Element" := (f16.keep Kp13)
  obtain ⟨cq17, kq17, q17a, q17b, q17c⟩ := isOf hZ5 rfl Fq13_0
  obtain ⟨_, _, ⟨T17, L17, k17, n17⟩, -, X17, ⟨Lc17, hQ17, l17, y17, z17⟩, st17⟩ := X13.virtualBack hx (y := (⟨"java/util/ArrayList", "add", "(Ljava/lang/Object;)Z"⟩ : MethodName)) (z := (⟨"java/util/ArrayList", "add", "(Ljava/lang/Object;)Z"⟩ : MethodName)) hown5 (mvT hZ5 (ow hw 73 rfl)) (mvT hZ5 (ow hw 74 rfl)) (notFace_of_selects (args := #[]) (mvT hZ5 (ow hw 76 rfl))) (mvT hZ5 (ow hw 76 rfl)) (mvT hZ5 (ow hw 75 rfl)) (by decide) (backOf (W := 0) (rmA1 l Z a0 hw [] b10 b3 nb_13 ka_13 ((0 : Int32) + (1 : Int32)) T13.heap n0 (Nat.le_trans (Nat.le_trans (Nat.le_trans (Nat.le_trans (Nat.le_trans (Nat.le_trans (Nat.le_trans (Nat.le_trans Z0 E1.1) Kp2.1) E3.1) E4.1) Kp5.1) E10.1) Kp11.1) Kp13.1) Fq13_1 Fq13_0 Fq13_2 Fq13_3 Fq13_4 Pq13_0 f18 (Nat.le_trans (Nat.le_trans (Nat.le_trans (Nat.le_trans (Nat.le_trans (Nat.le_trans Z0 E1.1) Kp2.1) E3.1) E4.1) Kp5.1) (Nat.le_of_eq g10.symm)) (Ne.symm (Nat.ne_of_lt (Nat.lt_of_lt_of_le Fq11_0.lt gb13_0))) (Nat.le_trans (Nat.le_trans (Nat.le_trans (Nat.le_trans (Nat.le_trans (Nat.le_trans (Nat.le_trans (Nat.le_trans Z0 E1.1) Kp2.1) E3.1) E4.1) Kp5.1) E10.1) Kp11.1) gb13_0)) hZ5 (ow hw 77 rfl) (ow hw 51 rfl) (by decide) (by decide)) q17a q17c (g := (mkF m 78 #[.val (.int ja), .val (.int jb), .val (.int kk), .val (.int (3 : Int32)), .val (.ref b1), .val (.ref b3), .val (.ref b10), .unset] [(.ref b3), (.ref b10)])) rfl (by rw [hml]; rfl) (Steps.refl _) (argsL := [(.ref b3)]) (rest := []) (lenOf pd_11 rfl) rfl (by show 2 * 0 + _ ≤ _; exact Nat.le_of_eq rfl) (hb hby at_78) (fun _ _ => ⟨rfl, rfl, (by decide : 8 + 0 ≤ _), (by decide : 37 + 0 ≤ _)⟩)
  dsimp only [Pt.U, Pt.locs, Pt.cells, Pt.slots] at X17 l17 y17 z17 st17 hQ17
  subst l17 y17 z17
  obtain ⟨rfl, Nq17, Kp17, Fq17_0, Fq17_1, Fq17_2, Fq17_3, Fq17_4⟩ := hQ17
  have N17 := Fr.app N13 Nq17
  have f20 : Exa Z T17.heap b3 "com/example/sortition/sortition/Element" := (f18.keep Kp17)
  obtain ⟨cq19, kq19, q19a, q19b, q19c⟩ := isOf hZ5 rfl Fq17_0
  obtain ⟨_, _, ⟨T19, L19, k19, n19⟩, -, X19, ⟨Lc19, hQ19, l19, y19, z19⟩, st19⟩ := X17.virtualBack hx (y := (⟨"java/util/ArrayList", "add", "(Ljava/lang/Object;)Z"⟩ : MethodName)) (z := (⟨"java/util/ArrayList", "add", "(Ljava/lang/Object;)Z"⟩ : MethodName)) hown5 (mvT hZ5 (ow hw 73 rfl)) (mvT hZ5 (ow hw 74 rfl)) (notFace_of_selects (args := #[]) (mvT hZ5 (ow hw 76 rfl))) (mvT hZ5 (ow hw 76 rfl)) (mvT hZ5 (ow hw 75 rfl)) (by decide) (backOf (W := 0) (rmA2 l Z a0 hw [] b10 b3 nb_13 ka_13 (((0 : Int32) + (1 : Int32)) + (1 : Int32)) T17.heap n0 (Nat.le_trans (Nat.le_trans (Nat.le_trans (Nat.le_trans (Nat.le_trans (Nat.le_trans (Nat.le_trans (Nat.le_trans (Nat.le_trans Z0 E1.1) Kp2.1) E3.1) E4.1) Kp5.1) E10.1) Kp11.1) Kp13.1) Kp17.1) Fq17_1 Fq17_0 Fq17_2 Fq17_3 Fq17_4 Pq13_0 f20 (Nat.le_trans (Nat.le_trans (Nat.le_trans (Nat.le_trans (Nat.le_trans (Nat.le_trans Z0 E1.1) Kp2.1) E3.1) E4.1) Kp5.1) (Nat.le_of_eq g10.symm)) (Ne.symm (Nat.ne_of_lt (Nat.lt_of_lt_of_le Fq11_0.lt gb13_0))) (Nat.le_trans (Nat.le_trans (Nat.le_trans (Nat.le_trans (Nat.le_trans (Nat.le_trans (Nat.le_trans (Nat.le_trans Z0 E1.1) Kp2.1) E3.1) E4.1) Kp5.1) E10.1) Kp11.1) gb13_0)) hZ5 (ow hw 77 rfl) (ow hw 51 rfl) (by decide) (by decide)) q19a q19c (g := (mkF m 91 #[.val (.int ja), .val (.int jb), .val (.int kk), .val (.int (3 : Int32)), .val (.ref b1), .val (.ref b3), .val (.ref b10), .unset] [(.ref b3), (.ref b10)])) rfl (by rw [hml]; rfl) (Steps.refl _) (argsL := [(.ref b3)]) (rest := []) (lenOf pd_11 rfl) rfl (by show 2 * 0 + _ ≤ _; exact Nat.le_of_eq rfl) (hb hby at_91) (fun _ _ => ⟨rfl, rfl, (by decide : 8 + 0 ≤ _), (by decide : 37 + 0 ≤ _)⟩)
  dsimp only [Pt.U, Pt.locs, Pt.cells, Pt.slots] at X19 l19 y19 z19 st19 hQ19
  subst l19 y19 z19
  obtain ⟨rfl, Nq19, Kp19, Fq19_0, Fq19_1, Fq19_2, Fq19_3, Fq19_4⟩ := hQ19
  have N19 := Fr.app N17 Nq19
  have f22 : Fld Z T19.heap b1 "com/example/sortition/sortition/Slots" "size" "I" (.int kk) := ((((((((Fq2_1.ext E3).ext E4).keep Kp5 (ninS (Nat.ne_of_lt (Nat.lt_of_lt_of_le Fq2_0.lt (Nat.le_of_eq g3.symm))) nin0)).ext E10).keep Kp11 (ninS (Nat.ne_of_lt (Nat.lt_of_lt_of_le (((Fq2_0.ext E3).ext E4).keep Kp5).lt (Nat.le_of_eq g10.symm))) nin0)).keep Kp13 (ninS (Nat.ne_of_lt (Nat.lt_of_lt_of_le (((Fq2_0.ext E3).ext E4).keep Kp5).lt (Nat.le_of_eq g10.symm))) nin0)).keep Kp17 (ninS (Nat.ne_of_lt (Nat.lt_of_lt_of_le (((Fq2_0.ext E3).ext E4).keep Kp5).lt (Nat.le_of_eq g10.symm))) (ninS (Nat.ne_of_lt (Nat.lt_of_lt_of_le (((((Fq2_0.ext E3).ext E4).keep Kp5).ext E10).keep Kp11).lt gb13_0)) nin0))).keep Kp19 (ninS (Nat.ne_of_lt (Nat.lt_of_lt_of_le (((Fq2_0.ext E3).ext E4).keep Kp5).lt (Nat.le_of_eq g10.symm))) (ninS (Nat.ne_of_lt (Nat.lt_of_lt_of_le (((((Fq2_0.ext E3).ext E4).keep Kp5).ext E10).keep Kp11).lt gb13_0)) nin0)))
  have f23 : Exa Z T19.heap b1 "com/example/sortition/sortition/Slots" := ((((((((Fq2_0.ext E3).ext E4).keep Kp5).ext E10).keep Kp11).keep Kp13).keep Kp17).keep Kp19)
  obtain ⟨cq21, kq21, q21a, q21b, q21c⟩ := isOf hZ5 rfl f23
  obtain ⟨_, _, ⟨T21, L21, k21, n21⟩, -, X21, ⟨Lc21, hQ21, l21, y21, z21⟩, st21⟩ := X19.virtualBack hx (y := (⟨"com/example/sortition/sortition/Slots", "allows", "(Ljava/util/List;)Z"⟩ : MethodName)) (z := (⟨"com/example/sortition/sortition/Slots", "allows", "(Ljava/util/List;)Z"⟩ : MethodName)) hown5 (mvT hZ5 (ow hw 104 rfl)) (mvT hZ5 (ow hw 105 rfl)) (notFace_of_selects (args := #[]) (mvT hZ5 (ow hw 107 rfl))) (mvT hZ5 (ow hw 107 rfl)) (mvT hZ5 (ow hw 106 rfl)) (by decide) (backOf (W := 0) (rmAW_t l Z a0 hw [] b1 b10 (3 : Int32) kk T19.heap n0 (Nat.le_trans (Nat.le_trans (Nat.le_trans (Nat.le_trans (Nat.le_trans (Nat.le_trans (Nat.le_trans (Nat.le_trans (Nat.le_trans (Nat.le_trans Z0 E1.1) Kp2.1) E3.1) E4.1) Kp5.1) E10.1) Kp11.1) Kp13.1) Kp17.1) Kp19.1) Fq19_0 Fq19_3 f22 hrd) hZ5 (ow hw 108 rfl) (ow hw 2 rfl) (by decide) (by decide)) q21a q21c (g := (mkF m 164 #[.val (.int ja), .val (.int jb), .val (.int kk), .val (.int (3 : Int32)), .val (.ref b1), .val (.ref b3), .val (.ref b10), .val (.int (0 : Int32))] [(.ref b10), (.ref b1)])) rfl (by rw [hml]; rfl) (Steps.refl _) (argsL := [(.ref b10)]) (rest := []) (lenOf pd_10 rfl) rfl (by show 2 * 0 + _ ≤ _; exact Nat.le_of_eq rfl) (hb hby at_164) (fun _ _ => ⟨rfl, rfl, (by decide : 8 + 0 ≤ _), (by decide : 37 + 0 ≤ _)⟩)
  dsimp only [Pt.U, Pt.locs, Pt.cells, Pt.slots] at X21 l21 y21 z21 st21 hQ21
  subst l21 y21 z21
  obtain ⟨rfl, Nq21, e21⟩ := hQ21
  have N21 := Fr.app N19 Nq21
  obtain ⟨fs, hr, hrun, hended, hRW⟩ := X21.leaveW (s := s) hS5 (by rw [e21]; exact (Nat.le_trans (Nat.le_trans (Nat.le_trans (Nat.le_trans (Nat.le_trans (Nat.le_refl _) E10.1) Kp11.1) Kp13.1) Kp17.1) Kp19.1)) (v := some (.int (1 : Int32))) (fun h => by rw [Bd.returns] at h; cases h)
  refine ⟨_, _, pre0 _ ?_, hrun, hended, _, _, rfl, ?_, hRW.1, hRW.2.1, hRW.2.2.1, hRW.2.2.2.mono (by decide) (by decide)⟩
  · show Steps p.tables e below (s₁.setTop (mkF m 0 #[.val (.int ja), .val (.int jb), .unset, .unset, .unset, .unset, .unset, .unset] [])) _
    refine stp _ ?_
    show Steps p.tables e below (s₁.setTop (mkF m 20 #[.val (.int ja), .val (.int jb), .val (.int kk), .unset, .unset, .unset, .unset, .unset] [])) _
    refine XS.iloadN X0.here hx rfl (hb hby at_20) rfl ?_
    show Steps p.tables e below (s₁.setTop (mkF m 21 #[.val (.int ja), .val (.int jb), .val (.int kk), .unset, .unset, .unset, .unset, .unset] [(.int jb)])) _
    refine XS.bipush X0.here hx rfl (hb hby at_21) ?_
    show Steps p.tables e below (s₁.setTop (mkF m 23 #[.val (.int ja), .val (.int jb), .val (.int kk), .unset, .unset, .unset, .unset, .unset] [(.int (7 : Int32)), (.int jb)])) _
    refine XS.iand X0.here hx rfl (hb hby at_23) rfl ?_
    show Steps p.tables e below (s₁.setTop (mkF m 24 #[.val (.int ja), .val (.int jb), .val (.int kk), .unset, .unset, .unset, .unset, .unset] [(.int (jb &&& (7 : Int32)))])) _
    rw [hn]
    show Steps p.tables e below (s₁.setTop (mkF m 24 #[.val (.int ja), .val (.int jb), .val (.int kk), .unset, .unset, .unset, .unset, .unset] [(.int (3 : Int32))])) _
    refine XS.istoreN X0.here hx rfl (hb hby at_24) rfl (l' := #[.val (.int ja), .val (.int jb), .val (.int kk), .val (.int (3 : Int32)), .unset, .unset, .unset, .unset]) rfl ?_
    show Steps p.tables e below (s₁.setTop (mkF m 25 #[.val (.int ja), .val (.int jb), .val (.int kk), .val (.int (3 : Int32)), .unset, .unset, .unset, .unset] [])) _
    refine st1 _ ?_
    show Steps p.tables e below (T1.setTop (mkF m 28 #[.val (.int ja), .val (.int jb), .val (.int kk), .val (.int (3 : Int32)), .unset, .unset, .unset, .unset] [(.ref b1)])) _
    refine XS.dup X1.here hx rfl (hb hby at_28) rfl rfl ?_
    show Steps p.tables e below (T1.setTop (mkF m 29 #[.val (.int ja), .val (.int jb), .val (.int kk), .val (.int (3 : Int32)), .unset, .unset, .unset, .unset] [(.ref b1), (.ref b1)])) _
    refine XS.iloadN X1.here hx rfl (hb hby at_29) rfl ?_
    show Steps p.tables e below (T1.setTop (mkF m 30 #[.val (.int ja), .val (.int jb), .val (.int kk), .val (.int (3 : Int32)), .unset, .unset, .unset, .unset] [(.int kk), (.ref b1), (.ref b1)])) _
    refine st2.trans ?_
    show Steps p.tables e below (T2.setTop (mkF m 33 #[.val (.int ja), .val (.int jb), .val (.int kk), .val (.int (3 : Int32)), .unset, .unset, .unset, .unset] [(.ref b1)])) _
    refine XS.astore X2.here hx rfl (hb hby at_33) rfl rfl (l' := #[.val (.int ja), .val (.int jb), .val (.int kk), .val (.int (3 : Int32)), .val (.ref b1), .unset, .unset, .unset]) rfl ?_
    show Steps p.tables e below (T2.setTop (mkF m 35 #[.val (.int ja), .val (.int jb), .val (.int kk), .val (.int (3 : Int32)), .val (.ref b1), .unset, .unset, .unset] [])) _
    refine st3 _ ?_
    show Steps p.tables e below (T3.setTop (mkF m 38 #[.val (.int ja), .val (.int jb), .val (.int kk), .val (.int (3 : Int32)), .val (.ref b1), .unset, .unset, .unset] [(.ref b3)])) _
    refine XS.dup X3.here hx rfl (hb hby at_38) rfl rfl ?_
    show Steps p.tables e below (T3.setTop (mkF m 39 #[.val (.int ja), .val (.int jb), .val (.int kk), .val (.int (3 : Int32)), .val (.ref b1), .unset, .unset, .unset] [(.ref b3), (.ref b3)])) _
    refine XS.iconst X3.here hx rfl (hb hby at_39) ?_
    show Steps p.tables e below (T3.setTop (mkF m 40 #[.val (.int ja), .val (.int jb), .val (.int kk), .val (.int (3 : Int32)), .val (.ref b1), .unset, .unset, .unset] [(.int (0 : Int32)), (.ref b3), (.ref b3)])) _
    refine st4 _ ?_
    show Steps p.tables e below (T4.setTop (mkF m 42 #[.val (.int ja), .val (.int jb), .val (.int kk), .val (.int (3 : Int32)), .val (.ref b1), .unset, .unset, .unset] [(.ref a4), (.int (0 : Int32)), (.ref b3), (.ref b3)])) _
    refine XS.dconst1 X4.here hx rfl (hb hby at_42) (v := 4607182418800017408) rfl ?_
    show Steps p.tables e below (T4.setTop (mkF m 43 #[.val (.int ja), .val (.int jb), .val (.int kk), .val (.int (3 : Int32)), .val (.ref b1), .unset, .unset, .unset] [(.double 4607182418800017408), (.ref a4), (.int (0 : Int32)), (.ref b3), (.ref b3)])) _
    refine st5.trans ?_
    show Steps p.tables e below (T5.setTop (mkF m 46 #[.val (.int ja), .val (.int jb), .val (.int kk), .val (.int (3 : Int32)), .val (.ref b1), .unset, .unset, .unset] [(.ref b3)])) _
    refine XS.astore X5.here hx rfl (hb hby at_46) rfl rfl (l' := #[.val (.int ja), .val (.int jb), .val (.int kk), .val (.int (3 : Int32)), .val (.ref b1), .val (.ref b3), .unset, .unset]) rfl ?_
    show Steps p.tables e below (T5.setTop (mkF m 48 #[.val (.int ja), .val (.int jb), .val (.int kk), .val (.int (3 : Int32)), .val (.ref b1), .val (.ref b3), .unset, .unset] [])) _
    refine st10 _ ?_
    show Steps p.tables e below (T10.setTop (mkF m 51 #[.val (.int ja), .val (.int jb), .val (.int kk), .val (.int (3 : Int32)), .val (.ref b1), .val (.ref b3), .unset, .unset] [(.ref b10)])) _
    refine XS.dup X10.here hx rfl (hb hby at_51) rfl rfl ?_
    show Steps p.tables e below (T10.setTop (mkF m 52 #[.val (.int ja), .val (.int jb), .val (.int kk), .val (.int (3 : Int32)), .val (.ref b1), .val (.ref b3), .unset, .unset] [(.ref b10), (.ref b10)])) _
    refine st11.trans ?_
    show Steps p.tables e below (T11.setTop (mkF m 55 #[.val (.int ja), .val (.int jb), .val (.int kk), .val (.int (3 : Int32)), .val (.ref b1), .val (.ref b3), .unset, .unset] [(.ref b10)])) _
    refine XS.astore X11.here hx rfl (hb hby at_55) rfl rfl (l' := #[.val (.int ja), .val (.int jb), .val (.int kk), .val (.int (3 : Int32)), .val (.ref b1), .val (.ref b3), .val (.ref b10), .unset]) rfl ?_
    show Steps p.tables e below (T11.setTop (mkF m 57 #[.val (.int ja), .val (.int jb), .val (.int kk), .val (.int (3 : Int32)), .val (.ref b1), .val (.ref b3), .val (.ref b10), .unset] [])) _
    refine XS.iloadN X11.here hx rfl (hb hby at_57) rfl ?_
    show Steps p.tables e below (T11.setTop (mkF m 58 #[.val (.int ja), .val (.int jb), .val (.int kk), .val (.int (3 : Int32)), .val (.ref b1), .val (.ref b3), .val (.ref b10), .unset] [(.int (3 : Int32))])) _
    refine XS.ifNo X11.here hx rfl (hb hby at_58) rfl ((if0 _ _).trans (tlt (by decide : (0 : Int32) < (3 : Int32))).2.2.2) ?_
    show Steps p.tables e below (T11.setTop (mkF m 61 #[.val (.int ja), .val (.int jb), .val (.int kk), .val (.int (3 : Int32)), .val (.ref b1), .val (.ref b3), .val (.ref b10), .unset] [])) _
    refine XS.aload X11.here hx rfl (hb hby at_61) rfl rfl ?_
    show Steps p.tables e below (T11.setTop (mkF m 63 #[.val (.int ja), .val (.int jb), .val (.int kk), .val (.int (3 : Int32)), .val (.ref b1), .val (.ref b3), .val (.ref b10), .unset] [(.ref b10)])) _
    refine XS.aload X11.here hx rfl (hb hby at_63) rfl rfl ?_
    show Steps p.tables e below (T11.setTop (mkF m 65 #[.val (.int ja), .val (.int jb), .val (.int kk), .val (.int (3 : Int32)), .val (.ref b1), .val (.ref b3), .val (.ref b10), .unset] [(.ref b3), (.ref b10)])) _
    refine st13.trans ?_
    show Steps p.tables e below (T13.setTop (mkF m 68 #[.val (.int ja), .val (.int jb), .val (.int kk), .val (.int (3 : Int32)), .val (.ref b1), .val (.ref b3), .val (.ref b10), .unset] [(.int (1 : Int32))])) _
    refine XS.pop X13.here hx rfl (hb hby at_68) rfl rfl ?_
    show Steps p.tables e below (T13.setTop (mkF m 69 #[.val (.int ja), .val (.int jb), .val (.int kk), .val (.int (3 : Int32)), .val (.ref b1), .val (.ref b3), .val (.ref b10), .unset] [])) _
    refine XS.iloadN X13.here hx rfl (hb hby at_69) rfl ?_
    show Steps p.tables e below (T13.setTop (mkF m 70 #[.val (.int ja), .val (.int jb), .val (.int kk), .val (.int (3 : Int32)), .val (.ref b1), .val (.ref b3), .val (.ref b10), .unset] [(.int (3 : Int32))])) _
    refine XS.iconst X13.here hx rfl (hb hby at_70) ?_
    show Steps p.tables e below (T13.setTop (mkF m 71 #[.val (.int ja), .val (.int jb), .val (.int kk), .val (.int (3 : Int32)), .val (.ref b1), .val (.ref b3), .val (.ref b10), .unset] [(.int (1 : Int32)), (.int (3 : Int32))])) _
    refine XS.icmpNo X13.here hx rfl (hb hby at_71) rfl (tlt (by decide : (1 : Int32) < (3 : Int32))).2.2.2 ?_
    show Steps p.tables e below (T13.setTop (mkF m 74 #[.val (.int ja), .val (.int jb), .val (.int kk), .val (.int (3 : Int32)), .val (.ref b1), .val (.ref b3), .val (.ref b10), .unset] [])) _
    refine XS.aload X13.here hx rfl (hb hby at_74) rfl rfl ?_
    show Steps p.tables e below (T13.setTop (mkF m 76 #[.val (.int ja), .val (.int jb), .val (.int kk), .val (.int (3 : Int32)), .val (.ref b1), .val (.ref b3), .val (.ref b10), .unset] [(.ref b10)])) _
    refine XS.aload X13.here hx rfl (hb hby at_76) rfl rfl ?_
    show Steps p.tables e below (T13.setTop (mkF m 78 #[.val (.int ja), .val (.int jb), .val (.int kk), .val (.int (3 : Int32)), .val (.ref b1), .val (.ref b3), .val (.ref b10), .unset] [(.ref b3), (.ref b10)])) _
    refine st17.trans ?_
    show Steps p.tables e below (T17.setTop (mkF m 81 #[.val (.int ja), .val (.int jb), .val (.int kk), .val (.int (3 : Int32)), .val (.ref b1), .val (.ref b3), .val (.ref b10), .unset] [(.int (1 : Int32))])) _
    refine XS.pop X17.here hx rfl (hb hby at_81) rfl rfl ?_
    show Steps p.tables e below (T17.setTop (mkF m 82 #[.val (.int ja), .val (.int jb), .val (.int kk), .val (.int (3 : Int32)), .val (.ref b1), .val (.ref b3), .val (.ref b10), .unset] [])) _
    refine XS.iloadN X17.here hx rfl (hb hby at_82) rfl ?_
    show Steps p.tables e below (T17.setTop (mkF m 83 #[.val (.int ja), .val (.int jb), .val (.int kk), .val (.int (3 : Int32)), .val (.ref b1), .val (.ref b3), .val (.ref b10), .unset] [(.int (3 : Int32))])) _
    refine XS.iconst X17.here hx rfl (hb hby at_83) ?_
    show Steps p.tables e below (T17.setTop (mkF m 84 #[.val (.int ja), .val (.int jb), .val (.int kk), .val (.int (3 : Int32)), .val (.ref b1), .val (.ref b3), .val (.ref b10), .unset] [(.int (2 : Int32)), (.int (3 : Int32))])) _
    refine XS.icmpNo X17.here hx rfl (hb hby at_84) rfl (tlt (by decide : (2 : Int32) < (3 : Int32))).2.2.2 ?_
    show Steps p.tables e below (T17.setTop (mkF m 87 #[.val (.int ja), .val (.int jb), .val (.int kk), .val (.int (3 : Int32)), .val (.ref b1), .val (.ref b3), .val (.ref b10), .unset] [])) _
    refine XS.aload X17.here hx rfl (hb hby at_87) rfl rfl ?_
    show Steps p.tables e below (T17.setTop (mkF m 89 #[.val (.int ja), .val (.int jb), .val (.int kk), .val (.int (3 : Int32)), .val (.ref b1), .val (.ref b3), .val (.ref b10), .unset] [(.ref b10)])) _
    refine XS.aload X17.here hx rfl (hb hby at_89) rfl rfl ?_
    show Steps p.tables e below (T17.setTop (mkF m 91 #[.val (.int ja), .val (.int jb), .val (.int kk), .val (.int (3 : Int32)), .val (.ref b1), .val (.ref b3), .val (.ref b10), .unset] [(.ref b3), (.ref b10)])) _
    refine st19.trans ?_
    show Steps p.tables e below (T19.setTop (mkF m 94 #[.val (.int ja), .val (.int jb), .val (.int kk), .val (.int (3 : Int32)), .val (.ref b1), .val (.ref b3), .val (.ref b10), .unset] [(.int (1 : Int32))])) _
    refine XS.pop X19.here hx rfl (hb hby at_94) rfl rfl ?_
    show Steps p.tables e below (T19.setTop (mkF m 95 #[.val (.int ja), .val (.int jb), .val (.int kk), .val (.int (3 : Int32)), .val (.ref b1), .val (.ref b3), .val (.ref b10), .unset] [])) _
    refine XS.iloadN X19.here hx rfl (hb hby at_95) rfl ?_
    show Steps p.tables e below (T19.setTop (mkF m 96 #[.val (.int ja), .val (.int jb), .val (.int kk), .val (.int (3 : Int32)), .val (.ref b1), .val (.ref b3), .val (.ref b10), .unset] [(.int (3 : Int32))])) _
    refine XS.iconst X19.here hx rfl (hb hby at_96) ?_
    show Steps p.tables e below (T19.setTop (mkF m 97 #[.val (.int ja), .val (.int jb), .val (.int kk), .val (.int (3 : Int32)), .val (.ref b1), .val (.ref b3), .val (.ref b10), .unset] [(.int (3 : Int32)), (.int (3 : Int32))])) _
    refine XS.icmpYes X19.here hx rfl (pc0 := 97) (pc' := 108) rfl (hb hby at_97) rfl (flt (by decide : ¬ ((3 : Int32) < (3 : Int32)))).2.2.2 (by decide) (by decide) ?_
    show Steps p.tables e below (T19.setTop (mkF m 108 #[.val (.int ja), .val (.int jb), .val (.int kk), .val (.int (3 : Int32)), .val (.ref b1), .val (.ref b3), .val (.ref b10), .unset] [])) _
    refine XS.iloadN X19.here hx rfl (hb hby at_108) rfl ?_
    show Steps p.tables e below (T19.setTop (mkF m 109 #[.val (.int ja), .val (.int jb), .val (.int kk), .val (.int (3 : Int32)), .val (.ref b1), .val (.ref b3), .val (.ref b10), .unset] [(.int (3 : Int32))])) _
    refine XS.iconst X19.here hx rfl (hb hby at_109) ?_
    show Steps p.tables e below (T19.setTop (mkF m 110 #[.val (.int ja), .val (.int jb), .val (.int kk), .val (.int (3 : Int32)), .val (.ref b1), .val (.ref b3), .val (.ref b10), .unset] [(.int (4 : Int32)), (.int (3 : Int32))])) _
    refine XS.icmpYes X19.here hx rfl (pc0 := 110) (pc' := 121) rfl (hb hby at_110) rfl (flt (by decide : ¬ ((4 : Int32) < (3 : Int32)))).2.2.2 (by decide) (by decide) ?_
    show Steps p.tables e below (T19.setTop (mkF m 121 #[.val (.int ja), .val (.int jb), .val (.int kk), .val (.int (3 : Int32)), .val (.ref b1), .val (.ref b3), .val (.ref b10), .unset] [])) _
    refine XS.iloadN X19.here hx rfl (hb hby at_121) rfl ?_
    show Steps p.tables e below (T19.setTop (mkF m 122 #[.val (.int ja), .val (.int jb), .val (.int kk), .val (.int (3 : Int32)), .val (.ref b1), .val (.ref b3), .val (.ref b10), .unset] [(.int (3 : Int32))])) _
    refine XS.iconst X19.here hx rfl (hb hby at_122) ?_
    show Steps p.tables e below (T19.setTop (mkF m 123 #[.val (.int ja), .val (.int jb), .val (.int kk), .val (.int (3 : Int32)), .val (.ref b1), .val (.ref b3), .val (.ref b10), .unset] [(.int (5 : Int32)), (.int (3 : Int32))])) _
    refine XS.icmpYes X19.here hx rfl (pc0 := 123) (pc' := 134) rfl (hb hby at_123) rfl (flt (by decide : ¬ ((5 : Int32) < (3 : Int32)))).2.2.2 (by decide) (by decide) ?_
    show Steps p.tables e below (T19.setTop (mkF m 134 #[.val (.int ja), .val (.int jb), .val (.int kk), .val (.int (3 : Int32)), .val (.ref b1), .val (.ref b3), .val (.ref b10), .unset] [])) _
    refine XS.iloadN X19.here hx rfl (hb hby at_134) rfl ?_
    show Steps p.tables e below (T19.setTop (mkF m 135 #[.val (.int ja), .val (.int jb), .val (.int kk), .val (.int (3 : Int32)), .val (.ref b1), .val (.ref b3), .val (.ref b10), .unset] [(.int (3 : Int32))])) _
    refine XS.bipush X19.here hx rfl (hb hby at_135) ?_
    show Steps p.tables e below (T19.setTop (mkF m 137 #[.val (.int ja), .val (.int jb), .val (.int kk), .val (.int (3 : Int32)), .val (.ref b1), .val (.ref b3), .val (.ref b10), .unset] [(.int (6 : Int32)), (.int (3 : Int32))])) _
    refine XS.icmpYes X19.here hx rfl (pc0 := 137) (pc' := 148) rfl (hb hby at_137) rfl (flt (by decide : ¬ ((6 : Int32) < (3 : Int32)))).2.2.2 (by decide) (by decide) ?_
    show Steps p.tables e below (T19.setTop (mkF m 148 #[.val (.int ja), .val (.int jb), .val (.int kk), .val (.int (3 : Int32)), .val (.ref b1), .val (.ref b3), .val (.ref b10), .unset] [])) _
    refine XS.iloadN X19.here hx rfl (hb hby at_148) rfl ?_
    show Steps p.tables e below (T19.setTop (mkF m 149 #[.val (.int ja), .val (.int jb), .val (.int kk), .val (.int (3 : Int32)), .val (.ref b1), .val (.ref b3), .val (.ref b10), .unset] [(.int (3 : Int32))])) _
    refine XS.iloadN X19.here hx rfl (hb hby at_149) rfl ?_
    show Steps p.tables e below (T19.setTop (mkF m 150 #[.val (.int ja), .val (.int jb), .val (.int kk), .val (.int (3 : Int32)), .val (.ref b1), .val (.ref b3), .val (.ref b10), .unset] [(.int kk), (.int (3 : Int32))])) _
    refine XS.icmpYes X19.here hx rfl (pc0 := 150) (pc' := 157) rfl (hb hby at_150) rfl (tlt hrd).2.2.1 (by decide) (by decide) ?_
    show Steps p.tables e below (T19.setTop (mkF m 157 #[.val (.int ja), .val (.int jb), .val (.int kk), .val (.int (3 : Int32)), .val (.ref b1), .val (.ref b3), .val (.ref b10), .unset] [])) _
    refine XS.iconst X19.here hx rfl (hb hby at_157) ?_
    show Steps p.tables e below (T19.setTop (mkF m 158 #[.val (.int ja), .val (.int jb), .val (.int kk), .val (.int (3 : Int32)), .val (.ref b1), .val (.ref b3), .val (.ref b10), .unset] [(.int (0 : Int32))])) _
    refine XS.istore X19.here hx rfl (hb hby at_158) rfl (l' := #[.val (.int ja), .val (.int jb), .val (.int kk), .val (.int (3 : Int32)), .val (.ref b1), .val (.ref b3), .val (.ref b10), .val (.int (0 : Int32))]) rfl ?_
    show Steps p.tables e below (T19.setTop (mkF m 160 #[.val (.int ja), .val (.int jb), .val (.int kk), .val (.int (3 : Int32)), .val (.ref b1), .val (.ref b3), .val (.ref b10), .val (.int (0 : Int32))] [])) _
    refine XS.aload X19.here hx rfl (hb hby at_160) rfl rfl ?_
    show Steps p.tables e below (T19.setTop (mkF m 162 #[.val (.int ja), .val (.int jb), .val (.int kk), .val (.int (3 : Int32)), .val (.ref b1), .val (.ref b3), .val (.ref b10), .val (.int (0 : Int32))] [(.ref b1)])) _
    refine XS.aload X19.here hx rfl (hb hby at_162) rfl rfl ?_
    show Steps p.tables e below (T19.setTop (mkF m 164 #[.val (.int ja), .val (.int jb), .val (.int kk), .val (.int (3 : Int32)), .val (.ref b1), .val (.ref b3), .val (.ref b10), .val (.int (0 : Int32))] [(.ref b10), (.ref b1)])) _
    refine st21.trans ?_
    show Steps p.tables e below (T21.setTop (mkF m 167 #[.val (.int ja), .val (.int jb), .val (.int kk), .val (.int (3 : Int32)), .val (.ref b1), .val (.ref b3), .val (.ref b10), .val (.int (0 : Int32))] [(.int (0 : Int32))])) _
    refine XS.iload X21.here hx rfl (hb hby at_167) rfl ?_
    show Steps p.tables e below (T21.setTop (mkF m 169 #[.val (.int ja), .val (.int jb), .val (.int kk), .val (.int (3 : Int32)), .val (.ref b1), .val (.ref b3), .val (.ref b10), .val (.int (0 : Int32))] [(.int (0 : Int32)), (.int (0 : Int32))])) _
    refine XS.icmpNo X21.here hx rfl (hb hby at_169) rfl (teq (rfl : (0 : Int32) = (0 : Int32))).2 ?_
    show Steps p.tables e below (T21.setTop (mkF m 172 #[.val (.int ja), .val (.int jb), .val (.int kk), .val (.int (3 : Int32)), .val (.ref b1), .val (.ref b3), .val (.ref b10), .val (.int (0 : Int32))] [])) _
    refine XS.iconst X21.here hx rfl (hb hby at_172) ?_
    show Steps p.tables e below (T21.setTop (mkF m 173 #[.val (.int ja), .val (.int jb), .val (.int kk), .val (.int (3 : Int32)), .val (.ref b1), .val (.ref b3), .val (.ref b10), .val (.int (0 : Int32))] [(.int (1 : Int32))])) _
    refine XS.goto X21.here hx rfl (pc0 := 173) (pc' := 177) rfl (hb hby at_173) (by decide) (by decide) ?_
    show Steps p.tables e below (T21.setTop (mkF m 177 #[.val (.int ja), .val (.int jb), .val (.int kk), .val (.int (3 : Int32)), .val (.ref b1), .val (.ref b3), .val (.ref b10), .val (.int (0 : Int32))] [(.int (1 : Int32))])) _
    exact retN X21 hx (t := .boolean) Bd.returns (by simp) (hb hby at_177) hr
  · show Q_rm0_3t Z ja jb kk de kd h0 n0 _ T21.heap _
    rw [e21]
    exact ⟨rfl, N21⟩
def Q_rm0_3f (Z : State) (ja : Int32) (jb : Int32) (kk : Int32) (de : Addr) (kd : ClassId) (h0 : Heap) (n0 : Nat) (v : Option Value) (h : Heap) (L : List Loc) : Prop := v = some (.int (1 : Int32)) ∧ Fr n0 L
theorem ef_rm0_3f (m : MethodId) (ja : Int32) (jb : Int32) : entryFrame m #[(.int ja), (.int jb)] maxLocals = mkF m 0 #[.val (.int ja), .val (.int jb), .unset, .unset, .unset, .unset, .unset, .unset] [] := by first | (simp [entryFrame, mkF, argsToLocals, Value.category, maxLocals]; done) | rfl
set_option maxRecDepth 65536 in
set_option maxHeartbeats 40000000 in
theorem rm0_3f (l : Launch) (Z : State) (a0 : Array Value) (hw : ∀ d ∈ tables_1, d.before a0 Z = true) (ws : List Jvm.Cond) (ja : Int32) (jb : Int32) (kk : Int32) (de : Addr) (kd : ClassId) (h0 : Heap) (n0 : Nat) (Z0 : n0 ≤ h0.size) (hwS : ∀ a ∈ Bundle.stringAtoms, a.before a0 Z = true) (hn0 : n0 = h0.size) (hcn : Jvm.Lit.constHeld Z "com/example/sortition/sortition/SlotsAllowsPinLaw" 15) (hcw : Jvm.Lit.compactW.before a0 Z = true) (S_DE : Sta Z h0 "java/util/ArrayList" "DEFAULTCAPACITY_EMPTY_ELEMENTDATA" "[Ljava/lang/Object;" (.ref de)) (V_de : Arv Z h0 de kd (.object "java/lang/Object") (0 : Int32) [] .null) (hkk : (own_k ja jb) = kk) (gkk : ¬ (kk < (0 : Int32))) (hn : (jb &&& (7 : Int32)) = (3 : Int32)) (hrd : ¬ (kk < (3 : Int32))) :
    MetFree l x (head1 (Jvm.Cond.code x code maxLocals ret :: ws) room_1) (fun a U => a = #[(.int ja), (.int jb)] ∧ Z.Warmed39 U.vm ∧ U.heap = h0 ∧ U.vm.interned = Z.vm.interned ∧ (∀ (b : Addr) (cl : Cell), Z.heap[b]? = some cl → U.heap[b]? = some cl)) (fun _ _ _ _ _ => True) (fun _ U o U' => ∃ v L, o = .returned v ∧ Q_rm0_3f Z ja jb kk de kd h0 n0 v U'.heap L ∧ ReturnedEndW U o U' L room_1.cells room_1.slots) := by
  refine MetFree.of_bodySF (plainFor_of_name pn_8) hisR ?_
  intro p e s m args below meth c s₁ Bd hml0 hP hK
  obtain ⟨rfl, hZ, hh, hI0, hK0⟩ := hP
  have hx := Bd.exec
  have hby := Bd.bytes
  have hml : c.maxLocals = 8 := hml0
  have hown : s.vm.findClass "com/example/sortition/sortition/SlotsAllowsPinLaw" = some m.cls := findClass_of_methodNamed Bd.named
  have hnm := (name_of_methodNamed Bd.named Bd.method).1
  have X0 : Stand p l e room_1 s m #[(.int ja), (.int jb)] below meth c s₁ [] 0 0 := Stand.of_body Bd
  have e0 : s₁.heap = h0 := by rw [← hh, Bd.state]; rfl
  have N0 := Fr.nil n0
  have hS0 := (State.WarmedH.refl s).since 0
  have pre0 : ∀ t, Steps p.tables e below (s₁.setTop (mkF m 0 #[.val (.int ja), .val (.int jb), .unset, .unset, .unset, .unset, .unset, .unset] [])) t → Steps p.tables e below (s₁.setTop (entryFrame m #[(.int ja), (.int jb)] maxLocals)) t := fun t k => castTop (ef_rm0_3f m ja jb) k
  have stp := own_pre ja jb X0 hx hZ hw hby hown
  rw [hkk] at stp
  obtain ⟨T1, h1, X1, e1, E1, A1, D1, -, st1⟩ := newO X0 hx hZ hown (ow hw 0 rfl) (ow hw 1 rfl) (ow hw 2 rfl) e0 (g := (mkF m 25 #[.val (.int ja), .val (.int jb), .val (.int kk), .val (.int (3 : Int32)), .unset, .unset, .unset, .unset] [])) rfl (hb hby at_25) (by decide) (by decide)
  obtain ⟨b1, g1⟩ : ∃ z, z = h0.size := ⟨_, rfl⟩
  rw [← g1] at A1 D1 st1
  have F1_3 : Fld Z h1 b1 "com/example/sortition/sortition/Slots" "size" "I" (.int (0 : Int32)) := D1 (Or.inr (ow hw 15 rfl)) (ty := .int) (by decide)
  obtain ⟨_, _, ⟨T2, L2, k2, n2⟩, -, X2, ⟨Lc2, hQ2, l2, y2, z2⟩, st2⟩ := X1.specialBack hx (y := (⟨"com/example/sortition/sortition/Slots", "<init>", "(I)V"⟩ : MethodName)) rfl hown (mvT hZ (ow hw 3 rfl)) (mvT hZ (ow hw 4 rfl)) (mvT hZ (ow hw 5 rfl)) (by decide) (backOf (W := 1) (rmSl l Z a0 hw [] b1 kk (.int (0 : Int32)) h1 n0 (Nat.le_trans Z0 E1.1) gkk F1_3 A1 (Nat.le_trans Z0 (Nat.le_of_eq g1.symm))) hZ (ow hw 5 rfl) (ow hw 2 rfl) (by decide) (by decide)) (g := (mkF m 30 #[.val (.int ja), .val (.int jb), .val (.int kk), .val (.int (3 : Int32)), .unset, .unset, .unset, .unset] [(.int kk), (.ref b1), (.ref b1)])) rfl (by rw [hml]; rfl) (Steps.refl _) (a := b1) (argsL := [(.int kk)]) (rest := [(.ref b1)]) (lenOf pd_8 rfl) rfl (by show 2 * 0 + _ ≤ _; exact Nat.le_of_eq rfl) (hb hby at_30) (fun _ _ => ⟨rfl, e1, (by decide : 1 + 0 ≤ _), (by decide : 1 + 0 ≤ _)⟩)
  dsimp only [Pt.U, Pt.locs, Pt.cells, Pt.slots] at X2 l2 y2 z2 st2 hQ2
  subst l2 y2 z2
  obtain ⟨rfl, Nq2, Kp2, Fq2_0, Fq2_1⟩ := hQ2
  have N2 := Fr.app N0 Nq2
  obtain ⟨T3, h3, X3, e3, E3, A3, D3, -, st3⟩ := newO X2 hx hZ hown (ow hw 16 rfl) (ow hw 17 rfl) (ow hw 18 rfl) rfl (g := (mkF m 35 #[.val (.int ja), .val (.int jb), .val (.int kk), .val (.int (3 : Int32)), .val (.ref b1), .unset, .unset, .unset] [])) rfl (hb hby at_35) (by decide) (by decide)
  obtain ⟨b3, g3⟩ : ∃ z, z = T2.heap.size := ⟨_, rfl⟩
  rw [← g3] at A3 D3 st3
  have F3_5 : Fld Z h3 b3 "com/example/sortition/sortition/Element" "index" "I" (.int (0 : Int32)) := D3 (Or.inr (ow hw 44 rfl)) (ty := .int) (by decide)
  have F3_6 : Fld Z h3 b3 "com/example/sortition/sortition/Element" "id" "Ljava/lang/String;" .null := D3 (Or.inr (ow hw 46 rfl)) (ty := (.object "java/lang/String")) (by decide)
  have F3_7 : Fld Z h3 b3 "com/example/sortition/sortition/Element" "value" "D" (.double 0) := D3 (Or.inr (ow hw 48 rfl)) (ty := .double) (by decide)
  obtain ⟨a4, T4, h4, k4, b4, kc4, X4, e4, E4, hS4, hk4, hZ4, hown4, A4, -, Fv4, V4, -, -, -, st4⟩ := ldcSV (s := s) (vm0 := s.vm) X3 hx hZ hown (ow hw 19 rfl) hwS e3 hS0 (Nat.le_trans (Nat.le_trans (Nat.le_trans (Nat.zero_le _) E1.1) Kp2.1) E3.1) (by rw [hh, ← hn0]; exact N2) hK0 (⟨#[], by simpa using hI0, fun q hq => by simp at hq⟩ : IB Z s.vm []) (by simp) hcn hcw (vs := [(.int (120 : Int32))]) (z := (1 : Int32)) ⟨by decide, by decide⟩ (by decide) rfl (g := (mkF m 40 #[.val (.int ja), .val (.int jb), .val (.int kk), .val (.int (3 : Int32)), .val (.ref b1), .unset, .unset, .unset] [(.int (0 : Int32)), (.ref b3), (.ref b3)])) rfl (hb hby at_40) (n := 4) (by decide) (by decide) (by decide) (by decide)
  have f6 : Fld Z h4 b3 "com/example/sortition/sortition/Element" "index" "I" (.int (0 : Int32)) := (F3_5.ext E4)
  have f7 : Exa Z h4 b3 "com/example/sortition/sortition/Element" := (A3.ext E4)
  have f8 : Fld Z h4 b3 "com/example/sortition/sortition/Element" "id" "Ljava/lang/String;" .null := (F3_6.ext E4)
  have f9 : Fld Z h4 b3 "com/example/sortition/sortition/Element" "value" "D" (.double 0) := (F3_7.ext E4)
  obtain ⟨_, _, ⟨T5, L5, k5, n5⟩, -, X5, hSq5, hgq5, ⟨Lc5, hQ5, l5, y5, z5⟩, st5⟩ := X4.specialBackS hx (y := (⟨"com/example/sortition/sortition/Element", "<init>", "(ILjava/lang/String;D)V"⟩ : MethodName)) rfl hown4 (mvT hZ4 (ow hw 27 rfl)) (mvT hZ4 (ow hw 28 rfl)) (mvT hZ4 (ow hw 29 rfl)) (by decide) (backOfS (W := 1) (rmEI l Z a0 hw [] b3 (0 : Int32) a4 4607182418800017408 b4 kc4 [(.int (120 : Int32))] (.int (0 : Int32)) .null (.double 0) h4 n0 (Nat.le_trans (Nat.le_trans (Nat.le_trans (Nat.le_trans Z0 E1.1) Kp2.1) E3.1) E4.1) hwS A4 Fv4 V4 (by first | assumption | decide) (by decide +kernel) (by decide +kernel) own_nn1 f6 f7 (Nat.le_trans (Nat.le_trans (Nat.le_trans Z0 E1.1) Kp2.1) (Nat.le_of_eq g3.symm)) f8 f9) hZ4 (ow hw 29 rfl) (ow hw 18 rfl) (by decide) (by decide)) (g := (mkF m 43 #[.val (.int ja), .val (.int jb), .val (.int kk), .val (.int (3 : Int32)), .val (.ref b1), .unset, .unset, .unset] [(.double 4607182418800017408), (.ref a4), (.int (0 : Int32)), (.ref b3), (.ref b3)])) rfl (by rw [hml]; rfl) (Steps.refl _) (a := b3) (argsL := [(.int (0 : Int32)), (.ref a4), (.double 4607182418800017408)]) (rest := [(.ref b3)]) (lenOf pd_9 rfl) rfl (by show 2 * 0 + _ ≤ _; exact Nat.le_of_eq rfl) (hb hby at_43) (fun _ _ => ⟨rfl, e4, (by decide : 4 + 2 ≤ _), (by decide : 12 + 12 ≤ _)⟩)
  dsimp only [Pt.U, Pt.locs, Pt.cells, Pt.slots] at X5 l5 y5 z5 st5 hQ5 hSq5 hgq5
  subst l5 y5 z5
  obtain ⟨X5, hS5, hZ5, hown5⟩ := rebS (s := s) (vm0 := T4.vm) hS4 (by rw [e4]; exact hk4) X5 hSq5 hgq5 hZ4 hown4
  obtain ⟨rfl, Nq5, Kp5, Fq5_0, Fq5_1, Fq5_2⟩ := hQ5
  have N5 := Fr.app N2 Nq5
  obtain ⟨T10, h10, X10, e10, E10, A10, D10, -, st10⟩ := newO X5 hx hZ5 hown5 (ow hw 49 rfl) (ow hw 50 rfl) (ow hw 51 rfl) rfl (g := (mkF m 48 #[.val (.int ja), .val (.int jb), .val (.int kk), .val (.int (3 : Int32)), .val (.ref b1), .val (.ref b3), .unset, .unset] [])) rfl (hb hby at_48) (by decide) (by decide)
  obtain ⟨b10, g10⟩ : ∃ z, z = T5.heap.size := ⟨_, rfl⟩
  rw [← g10] at A10 D10 st10
  have F10_12 : Fld Z h10 b10 "java/util/AbstractList" "modCount" "I" (.int (0 : Int32)) := D10 (Or.inl (ow hw 69 rfl)) (ty := .int) (by decide)
  have F10_13 : Fld Z h10 b10 "java/util/ArrayList" "elementData" "[Ljava/lang/Object;" .null := D10 (Or.inl (ow hw 72 rfl)) (ty := (.array (.object "java/lang/Object"))) (by decide)
  have F10_14 : Fld Z h10 b10 "java/util/ArrayList" "size" "I" (.int (0 : Int32)) := D10 (Or.inl (ow hw 81 rfl)) (ty := .int) (by decide)
  have f12 : Sta Z h10 "java/util/ArrayList" "DEFAULTCAPACITY_EMPTY_ELEMENTDATA" "[Ljava/lang/Object;" (.ref de) := ((Sta_keep (((Sta_keep (S_DE.ext E1) Kp2 (nsS A1.nostat ns0)).ext E3).ext E4) Kp5 (nsS f7.nostat ns0)).ext E10)
  obtain ⟨_, _, ⟨T11, L11, k11, n11⟩, -, X11, ⟨Lc11, hQ11, l11, y11, z11⟩, st11⟩ := X10.specialBack hx (y := (⟨"java/util/ArrayList", "<init>", "()V"⟩ : MethodName)) rfl hown5 (mvT hZ5 (ow hw 52 rfl)) (mvT hZ5 (ow hw 53 rfl)) (mvT hZ5 (ow hw 54 rfl)) (by decide) (backOf (W := 1) (rmAL l Z a0 hw [] b10 de (.int (0 : Int32)) .null h10 n0 (Nat.le_trans (Nat.le_trans (Nat.le_trans (Nat.le_trans (Nat.le_trans (Nat.le_trans Z0 E1.1) Kp2.1) E3.1) E4.1) Kp5.1) E10.1) A10 F10_12 F10_13 f12 F10_14 (Nat.le_trans (Nat.le_trans (Nat.le_trans (Nat.le_trans (Nat.le_trans (Nat.le_trans Z0 E1.1) Kp2.1) E3.1) E4.1) Kp5.1) (Nat.le_of_eq g10.symm))) hZ5 (ow hw 54 rfl) (ow hw 51 rfl) (by decide) (by decide)) (g := (mkF m 52 #[.val (.int ja), .val (.int jb), .val (.int kk), .val (.int (3 : Int32)), .val (.ref b1), .val (.ref b3), .unset, .unset] [(.ref b10), (.ref b10)])) rfl (by rw [hml]; rfl) (Steps.refl _) (a := b10) (argsL := []) (rest := [(.ref b10)]) (lenOf pd_0 rfl) rfl (by show 2 * 0 + _ ≤ _; exact Nat.le_of_eq rfl) (hb hby at_52) (fun _ _ => ⟨rfl, e10, (by decide : 7 + 0 ≤ _), (by decide : 27 + 0 ≤ _)⟩)
  dsimp only [Pt.U, Pt.locs, Pt.cells, Pt.slots] at X11 l11 y11 z11 st11 hQ11
  subst l11 y11 z11
  obtain ⟨rfl, Nq11, Kp11, Fq11_0, Fq11_1, Fq11_2, Fq11_3⟩ := hQ11
  have N11 := Fr.app N5 Nq11
  have f14 : Arv Z T11.heap de kd (.object "java/lang/Object") (0 : Int32) [] .null := (((((((V_de.ext E1).keep Kp2 (ninS (Nat.ne_of_lt (Nat.lt_of_lt_of_le V_de.lt (Nat.le_of_eq g1.symm))) nin0)).ext E3).ext E4).keep Kp5 (ninS (Nat.ne_of_lt (Nat.lt_of_lt_of_le ((V_de.ext E1).keep Kp2 (ninS (Nat.ne_of_lt (Nat.lt_of_lt_of_le V_de.lt (Nat.le_of_eq g1.symm))) nin0)).lt (Nat.le_of_eq g3.symm))) nin0)).ext E10).keep Kp11 (ninS (Nat.ne_of_lt (Nat.lt_of_lt_of_le (((((V_de.ext E1).keep Kp2 (ninS (Nat.ne_of_lt (Nat.lt_of_lt_of_le V_de.lt (Nat.le_of_eq g1.symm))) nin0)).ext E3).ext E4).keep Kp5 (ninS (Nat.ne_of_lt (Nat.lt_of_lt_of_le ((V_de.ext E1).keep Kp2 (ninS (Nat.ne_of_lt (Nat.lt_of_lt_of_le V_de.lt (Nat.le_of_eq g1.symm))) nin0)).lt (Nat.le_of_eq g3.symm))) nin0)).lt (Nat.le_of_eq g10.symm))) nin0))
  have f15 : Sta Z T11.heap "java/util/ArrayList" "DEFAULTCAPACITY_EMPTY_ELEMENTDATA" "[Ljava/lang/Object;" (.ref de) := (Sta_keep f12 Kp11 (nsS A10.nostat ns0))
  have f16 : Exa Z T11.heap b3 "com/example/sortition/sortition/Element" := ((Fq5_0.ext E10).keep Kp11)
  obtain ⟨cq13, kq13, q13a, q13b, q13c⟩ := isOf hZ5 rfl Fq11_0
  obtain ⟨_, _, ⟨T13, L13, k13, n13⟩, -, X13, ⟨Lc13, hQ13, l13, y13, z13⟩, st13⟩ := X11.virtualBack hx (y := (⟨"java/util/ArrayList", "add", "(Ljava/lang/Object;)Z"⟩ : MethodName)) (z := (⟨"java/util/ArrayList", "add", "(Ljava/lang/Object;)Z"⟩ : MethodName)) hown5 (mvT hZ5 (ow hw 73 rfl)) (mvT hZ5 (ow hw 74 rfl)) (notFace_of_selects (args := #[]) (mvT hZ5 (ow hw 76 rfl))) (mvT hZ5 (ow hw 76 rfl)) (mvT hZ5 (ow hw 75 rfl)) (by decide) (backOf (W := 0) (rmA0 l Z a0 hw [] b10 b3 de kd (0 : Int32) T11.heap n0 (Nat.le_trans (Nat.le_trans (Nat.le_trans (Nat.le_trans (Nat.le_trans (Nat.le_trans (Nat.le_trans Z0 E1.1) Kp2.1) E3.1) E4.1) Kp5.1) E10.1) Kp11.1) Fq11_1 Fq11_0 Fq11_2 Fq11_3 f14 f15 f16 (Nat.le_trans (Nat.le_trans (Nat.le_trans (Nat.le_trans (Nat.le_trans (Nat.le_trans Z0 E1.1) Kp2.1) E3.1) E4.1) Kp5.1) (Nat.le_of_eq g10.symm)) (Nat.ne_of_lt (Nat.lt_of_lt_of_le (((((V_de.ext E1).keep Kp2 (ninS (Nat.ne_of_lt (Nat.lt_of_lt_of_le V_de.lt (Nat.le_of_eq g1.symm))) nin0)).ext E3).ext E4).keep Kp5 (ninS (Nat.ne_of_lt (Nat.lt_of_lt_of_le ((V_de.ext E1).keep Kp2 (ninS (Nat.ne_of_lt (Nat.lt_of_lt_of_le V_de.lt (Nat.le_of_eq g1.symm))) nin0)).lt (Nat.le_of_eq g3.symm))) nin0)).lt (Nat.le_of_eq g10.symm)))) hZ5 (ow hw 77 rfl) (ow hw 51 rfl) (by decide) (by decide)) q13a q13c (g := (mkF m 65 #[.val (.int ja), .val (.int jb), .val (.int kk), .val (.int (3 : Int32)), .val (.ref b1), .val (.ref b3), .val (.ref b10), .unset] [(.ref b3), (.ref b10)])) rfl (by rw [hml]; rfl) (Steps.refl _) (argsL := [(.ref b3)]) (rest := []) (lenOf pd_11 rfl) rfl (by show 2 * 0 + _ ≤ _; exact Nat.le_of_eq rfl) (hb hby at_65) (fun _ _ => ⟨rfl, rfl, (by decide : 7 + 1 ≤ _), (by decide : 27 + 10 ≤ _)⟩)
  dsimp only [Pt.U, Pt.locs, Pt.cells, Pt.slots] at X13 l13 y13 z13 st13 hQ13
  subst l13 y13 z13
  obtain ⟨nb_13, ka_13, rfl, Nq13, gb13_0, Kp13, Fq13_0, Fq13_1, Fq13_2, Fq13_3, Fq13_4, Pq13_0⟩ := hQ13
  have N13 := Fr.app N11 Nq13
  have f18 : Exa Z T13.heap b3 "com/example/sortition/sortition/Element" := (f16.keep Kp13)
  obtain ⟨cq17, kq17, q17a, q17b, q17c⟩ := isOf hZ5 rfl Fq13_0
  obtain ⟨_, _, ⟨T17, L17, k17, n17⟩, -, X17, ⟨Lc17, hQ17, l17, y17, z17⟩, st17⟩ := X13.virtualBack hx (y := (⟨"java/util/ArrayList", "add", "(Ljava/lang/Object;)Z"⟩ : MethodName)) (z := (⟨"java/util/ArrayList", "add", "(Ljava/lang/Object;)Z"⟩ : MethodName)) hown5 (mvT hZ5 (ow hw 73 rfl)) (mvT hZ5 (ow hw 74 rfl)) (notFace_of_selects (args := #[]) (mvT hZ5 (ow hw 76 rfl))) (mvT hZ5 (ow hw 76 rfl)) (mvT hZ5 (ow hw 75 rfl)) (by decide) (backOf (W := 0) (rmA1 l Z a0 hw [] b10 b3 nb_13 ka_13 ((0 : Int32) + (1 : Int32)) T13.heap n0 (Nat.le_trans (Nat.le_trans (Nat.le_trans (Nat.le_trans (Nat.le_trans (Nat.le_trans (Nat.le_trans (Nat.le_trans Z0 E1.1) Kp2.1) E3.1) E4.1) Kp5.1) E10.1) Kp11.1) Kp13.1) Fq13_1 Fq13_0 Fq13_2 Fq13_3 Fq13_4 Pq13_0 f18 (Nat.le_trans (Nat.le_trans (Nat.le_trans (Nat.le_trans (Nat.le_trans (Nat.le_trans Z0 E1.1) Kp2.1) E3.1) E4.1) Kp5.1) (Nat.le_of_eq g10.symm)) (Ne.symm (Nat.ne_of_lt (Nat.lt_of_lt_of_le Fq11_0.lt gb13_0))) (Nat.le_trans (Nat.le_trans (Nat.le_trans (Nat.le_trans (Nat.le_trans (Nat.le_trans (Nat.le_trans (Nat.le_trans Z0 E1.1) Kp2.1) E3.1) E4.1) Kp5.1) E10.1) Kp11.1) gb13_0)) hZ5 (ow hw 77 rfl) (ow hw 51 rfl) (by decide) (by decide)) q17a q17c (g := (mkF m 78 #[.val (.int ja), .val (.int jb), .val (.int kk), .val (.int (3 : Int32)), .val (.ref b1), .val (.ref b3), .val (.ref b10), .unset] [(.ref b3), (.ref b10)])) rfl (by rw [hml]; rfl) (Steps.refl _) (argsL := [(.ref b3)]) (rest := []) (lenOf pd_11 rfl) rfl (by show 2 * 0 + _ ≤ _; exact Nat.le_of_eq rfl) (hb hby at_78) (fun _ _ => ⟨rfl, rfl, (by decide : 8 + 0 ≤ _), (by decide : 37 + 0 ≤ _)⟩)
  dsimp only [Pt.U, Pt.locs, Pt.cells, Pt.slots] at X17 l17 y17 z17 st17 hQ17
  subst l17 y17 z17
  obtain ⟨rfl, Nq17, Kp17, Fq17_0, Fq17_1, Fq17_2, Fq17_3, Fq17_4⟩ := hQ17
  have N17 := Fr.app N13 Nq17
  have f20 : Exa Z T17.heap b3 "com/example/sortition/sortition/Element" := (f18.keep Kp17)
  obtain ⟨cq19, kq19, q19a, q19b, q19c⟩ := isOf hZ5 rfl Fq17_0
  obtain ⟨_, _, ⟨T19, L19, k19, n19⟩, -, X19, ⟨Lc19, hQ19, l19, y19, z19⟩, st19⟩ := X17.virtualBack hx (y := (⟨"java/util/ArrayList", "add", "(Ljava/lang/Object;)Z"⟩ : MethodName)) (z := (⟨"java/util/ArrayList", "add", "(Ljava/lang/Object;)Z"⟩ : MethodName)) hown5 (mvT hZ5 (ow hw 73 rfl)) (mvT hZ5 (ow hw 74 rfl)) (notFace_of_selects (args := #[]) (mvT hZ5 (ow hw 76 rfl))) (mvT hZ5 (ow hw 76 rfl)) (mvT hZ5 (ow hw 75 rfl)) (by decide) (backOf (W := 0) (rmA2 l Z a0 hw [] b10 b3 nb_13 ka_13 (((0 : Int32) + (1 : Int32)) + (1 : Int32)) T17.heap n0 (Nat.le_trans (Nat.le_trans (Nat.le_trans (Nat.le_trans (Nat.le_trans (Nat.le_trans (Nat.le_trans (Nat.le_trans (Nat.le_trans Z0 E1.1) Kp2.1) E3.1) E4.1) Kp5.1) E10.1) Kp11.1) Kp13.1) Kp17.1) Fq17_1 Fq17_0 Fq17_2 Fq17_3 Fq17_4 Pq13_0 f20 (Nat.le_trans (Nat.le_trans (Nat.le_trans (Nat.le_trans (Nat.le_trans (Nat.le_trans Z0 E1.1) Kp2.1) E3.1) E4.1) Kp5.1) (Nat.le_of_eq g10.symm)) (Ne.symm (Nat.ne_of_lt (Nat.lt_of_lt_of_le Fq11_0.lt gb13_0))) (Nat.le_trans (Nat.le_trans (Nat.le_trans (Nat.le_trans (Nat.le_trans (Nat.le_trans (Nat.le_trans (Nat.le_trans Z0 E1.1) Kp2.1) E3.1) E4.1) Kp5.1) E10.1) Kp11.1) gb13_0)) hZ5 (ow hw 77 rfl) (ow hw 51 rfl) (by decide) (by decide)) q19a q19c (g := (mkF m 91 #[.val (.int ja), .val (.int jb), .val (.int kk), .val (.int (3 : Int32)), .val (.ref b1), .val (.ref b3), .val (.ref b10), .unset] [(.ref b3), (.ref b10)])) rfl (by rw [hml]; rfl) (Steps.refl _) (argsL := [(.ref b3)]) (rest := []) (lenOf pd_11 rfl) rfl (by show 2 * 0 + _ ≤ _; exact Nat.le_of_eq rfl) (hb hby at_91) (fun _ _ => ⟨rfl, rfl, (by decide : 8 + 0 ≤ _), (by decide : 37 + 0 ≤ _)⟩)
  dsimp only [Pt.U, Pt.locs, Pt.cells, Pt.slots] at X19 l19 y19 z19 st19 hQ19
  subst l19 y19 z19
  obtain ⟨rfl, Nq19, Kp19, Fq19_0, Fq19_1, Fq19_2, Fq19_3, Fq19_4⟩ := hQ19
  have N19 := Fr.app N17 Nq19
  have f22 : Fld Z T19.heap b1 "com/example/sortition/sortition/Slots" "size" "I" (.int kk) := ((((((((Fq2_1.ext E3).ext E4).keep Kp5 (ninS (Nat.ne_of_lt (Nat.lt_of_lt_of_le Fq2_0.lt (Nat.le_of_eq g3.symm))) nin0)).ext E10).keep Kp11 (ninS (Nat.ne_of_lt (Nat.lt_of_lt_of_le (((Fq2_0.ext E3).ext E4).keep Kp5).lt (Nat.le_of_eq g10.symm))) nin0)).keep Kp13 (ninS (Nat.ne_of_lt (Nat.lt_of_lt_of_le (((Fq2_0.ext E3).ext E4).keep Kp5).lt (Nat.le_of_eq g10.symm))) nin0)).keep Kp17 (ninS (Nat.ne_of_lt (Nat.lt_of_lt_of_le (((Fq2_0.ext E3).ext E4).keep Kp5).lt (Nat.le_of_eq g10.symm))) (ninS (Nat.ne_of_lt (Nat.lt_of_lt_of_le (((((Fq2_0.ext E3).ext E4).keep Kp5).ext E10).keep Kp11).lt gb13_0)) nin0))).keep Kp19 (ninS (Nat.ne_of_lt (Nat.lt_of_lt_of_le (((Fq2_0.ext E3).ext E4).keep Kp5).lt (Nat.le_of_eq g10.symm))) (ninS (Nat.ne_of_lt (Nat.lt_of_lt_of_le (((((Fq2_0.ext E3).ext E4).keep Kp5).ext E10).keep Kp11).lt gb13_0)) nin0)))
  have f23 : Exa Z T19.heap b1 "com/example/sortition/sortition/Slots" := ((((((((Fq2_0.ext E3).ext E4).keep Kp5).ext E10).keep Kp11).keep Kp13).keep Kp17).keep Kp19)
  obtain ⟨cq21, kq21, q21a, q21b, q21c⟩ := isOf hZ5 rfl f23
  obtain ⟨_, _, ⟨T21, L21, k21, n21⟩, -, X21, ⟨Lc21, hQ21, l21, y21, z21⟩, st21⟩ := X19.virtualBack hx (y := (⟨"com/example/sortition/sortition/Slots", "allows", "(Ljava/util/List;)Z"⟩ : MethodName)) (z := (⟨"com/example/sortition/sortition/Slots", "allows", "(Ljava/util/List;)Z"⟩ : MethodName)) hown5 (mvT hZ5 (ow hw 104 rfl)) (mvT hZ5 (ow hw 105 rfl)) (notFace_of_selects (args := #[]) (mvT hZ5 (ow hw 107 rfl))) (mvT hZ5 (ow hw 107 rfl)) (mvT hZ5 (ow hw 106 rfl)) (by decide) (backOf (W := 0) (rmAW_f l Z a0 hw [] b1 b10 (3 : Int32) kk T19.heap n0 (Nat.le_trans (Nat.le_trans (Nat.le_trans (Nat.le_trans (Nat.le_trans (Nat.le_trans (Nat.le_trans (Nat.le_trans (Nat.le_trans (Nat.le_trans Z0 E1.1) Kp2.1) E3.1) E4.1) Kp5.1) E10.1) Kp11.1) Kp13.1) Kp17.1) Kp19.1) Fq19_0 Fq19_3 f22 hrd) hZ5 (ow hw 108 rfl) (ow hw 2 rfl) (by decide) (by decide)) q21a q21c (g := (mkF m 164 #[.val (.int ja), .val (.int jb), .val (.int kk), .val (.int (3 : Int32)), .val (.ref b1), .val (.ref b3), .val (.ref b10), .val (.int (1 : Int32))] [(.ref b10), (.ref b1)])) rfl (by rw [hml]; rfl) (Steps.refl _) (argsL := [(.ref b10)]) (rest := []) (lenOf pd_10 rfl) rfl (by show 2 * 0 + _ ≤ _; exact Nat.le_of_eq rfl) (hb hby at_164) (fun _ _ => ⟨rfl, rfl, (by decide : 8 + 0 ≤ _), (by decide : 37 + 0 ≤ _)⟩)
  dsimp only [Pt.U, Pt.locs, Pt.cells, Pt.slots] at X21 l21 y21 z21 st21 hQ21
  subst l21 y21 z21
  obtain ⟨rfl, Nq21, e21⟩ := hQ21
  have N21 := Fr.app N19 Nq21
  obtain ⟨fs, hr, hrun, hended, hRW⟩ := X21.leaveW (s := s) hS5 (by rw [e21]; exact (Nat.le_trans (Nat.le_trans (Nat.le_trans (Nat.le_trans (Nat.le_trans (Nat.le_refl _) E10.1) Kp11.1) Kp13.1) Kp17.1) Kp19.1)) (v := some (.int (1 : Int32))) (fun h => by rw [Bd.returns] at h; cases h)
  refine ⟨_, _, pre0 _ ?_, hrun, hended, _, _, rfl, ?_, hRW.1, hRW.2.1, hRW.2.2.1, hRW.2.2.2.mono (by decide) (by decide)⟩
  · show Steps p.tables e below (s₁.setTop (mkF m 0 #[.val (.int ja), .val (.int jb), .unset, .unset, .unset, .unset, .unset, .unset] [])) _
    refine stp _ ?_
    show Steps p.tables e below (s₁.setTop (mkF m 20 #[.val (.int ja), .val (.int jb), .val (.int kk), .unset, .unset, .unset, .unset, .unset] [])) _
    refine XS.iloadN X0.here hx rfl (hb hby at_20) rfl ?_
    show Steps p.tables e below (s₁.setTop (mkF m 21 #[.val (.int ja), .val (.int jb), .val (.int kk), .unset, .unset, .unset, .unset, .unset] [(.int jb)])) _
    refine XS.bipush X0.here hx rfl (hb hby at_21) ?_
    show Steps p.tables e below (s₁.setTop (mkF m 23 #[.val (.int ja), .val (.int jb), .val (.int kk), .unset, .unset, .unset, .unset, .unset] [(.int (7 : Int32)), (.int jb)])) _
    refine XS.iand X0.here hx rfl (hb hby at_23) rfl ?_
    show Steps p.tables e below (s₁.setTop (mkF m 24 #[.val (.int ja), .val (.int jb), .val (.int kk), .unset, .unset, .unset, .unset, .unset] [(.int (jb &&& (7 : Int32)))])) _
    rw [hn]
    show Steps p.tables e below (s₁.setTop (mkF m 24 #[.val (.int ja), .val (.int jb), .val (.int kk), .unset, .unset, .unset, .unset, .unset] [(.int (3 : Int32))])) _
    refine XS.istoreN X0.here hx rfl (hb hby at_24) rfl (l' := #[.val (.int ja), .val (.int jb), .val (.int kk), .val (.int (3 : Int32)), .unset, .unset, .unset, .unset]) rfl ?_
    show Steps p.tables e below (s₁.setTop (mkF m 25 #[.val (.int ja), .val (.int jb), .val (.int kk), .val (.int (3 : Int32)), .unset, .unset, .unset, .unset] [])) _
    refine st1 _ ?_
    show Steps p.tables e below (T1.setTop (mkF m 28 #[.val (.int ja), .val (.int jb), .val (.int kk), .val (.int (3 : Int32)), .unset, .unset, .unset, .unset] [(.ref b1)])) _
    refine XS.dup X1.here hx rfl (hb hby at_28) rfl rfl ?_
    show Steps p.tables e below (T1.setTop (mkF m 29 #[.val (.int ja), .val (.int jb), .val (.int kk), .val (.int (3 : Int32)), .unset, .unset, .unset, .unset] [(.ref b1), (.ref b1)])) _
    refine XS.iloadN X1.here hx rfl (hb hby at_29) rfl ?_
    show Steps p.tables e below (T1.setTop (mkF m 30 #[.val (.int ja), .val (.int jb), .val (.int kk), .val (.int (3 : Int32)), .unset, .unset, .unset, .unset] [(.int kk), (.ref b1), (.ref b1)])) _
    refine st2.trans ?_
    show Steps p.tables e below (T2.setTop (mkF m 33 #[.val (.int ja), .val (.int jb), .val (.int kk), .val (.int (3 : Int32)), .unset, .unset, .unset, .unset] [(.ref b1)])) _
    refine XS.astore X2.here hx rfl (hb hby at_33) rfl rfl (l' := #[.val (.int ja), .val (.int jb), .val (.int kk), .val (.int (3 : Int32)), .val (.ref b1), .unset, .unset, .unset]) rfl ?_
    show Steps p.tables e below (T2.setTop (mkF m 35 #[.val (.int ja), .val (.int jb), .val (.int kk), .val (.int (3 : Int32)), .val (.ref b1), .unset, .unset, .unset] [])) _
    refine st3 _ ?_
    show Steps p.tables e below (T3.setTop (mkF m 38 #[.val (.int ja), .val (.int jb), .val (.int kk), .val (.int (3 : Int32)), .val (.ref b1), .unset, .unset, .unset] [(.ref b3)])) _
    refine XS.dup X3.here hx rfl (hb hby at_38) rfl rfl ?_
    show Steps p.tables e below (T3.setTop (mkF m 39 #[.val (.int ja), .val (.int jb), .val (.int kk), .val (.int (3 : Int32)), .val (.ref b1), .unset, .unset, .unset] [(.ref b3), (.ref b3)])) _
    refine XS.iconst X3.here hx rfl (hb hby at_39) ?_
    show Steps p.tables e below (T3.setTop (mkF m 40 #[.val (.int ja), .val (.int jb), .val (.int kk), .val (.int (3 : Int32)), .val (.ref b1), .unset, .unset, .unset] [(.int (0 : Int32)), (.ref b3), (.ref b3)])) _
    refine st4 _ ?_
    show Steps p.tables e below (T4.setTop (mkF m 42 #[.val (.int ja), .val (.int jb), .val (.int kk), .val (.int (3 : Int32)), .val (.ref b1), .unset, .unset, .unset] [(.ref a4), (.int (0 : Int32)), (.ref b3), (.ref b3)])) _
    refine XS.dconst1 X4.here hx rfl (hb hby at_42) (v := 4607182418800017408) rfl ?_
    show Steps p.tables e below (T4.setTop (mkF m 43 #[.val (.int ja), .val (.int jb), .val (.int kk), .val (.int (3 : Int32)), .val (.ref b1), .unset, .unset, .unset] [(.double 4607182418800017408), (.ref a4), (.int (0 : Int32)), (.ref b3), (.ref b3)])) _
    refine st5.trans ?_
    show Steps p.tables e below (T5.setTop (mkF m 46 #[.val (.int ja), .val (.int jb), .val (.int kk), .val (.int (3 : Int32)), .val (.ref b1), .unset, .unset, .unset] [(.ref b3)])) _
    refine XS.astore X5.here hx rfl (hb hby at_46) rfl rfl (l' := #[.val (.int ja), .val (.int jb), .val (.int kk), .val (.int (3 : Int32)), .val (.ref b1), .val (.ref b3), .unset, .unset]) rfl ?_
    show Steps p.tables e below (T5.setTop (mkF m 48 #[.val (.int ja), .val (.int jb), .val (.int kk), .val (.int (3 : Int32)), .val (.ref b1), .val (.ref b3), .unset, .unset] [])) _
    refine st10 _ ?_
    show Steps p.tables e below (T10.setTop (mkF m 51 #[.val (.int ja), .val (.int jb), .val (.int kk), .val (.int (3 : Int32)), .val (.ref b1), .val (.ref b3), .unset, .unset] [(.ref b10)])) _
    refine XS.dup X10.here hx rfl (hb hby at_51) rfl rfl ?_
    show Steps p.tables e below (T10.setTop (mkF m 52 #[.val (.int ja), .val (.int jb), .val (.int kk), .val (.int (3 : Int32)), .val (.ref b1), .val (.ref b3), .unset, .unset] [(.ref b10), (.ref b10)])) _
    refine st11.trans ?_
    show Steps p.tables e below (T11.setTop (mkF m 55 #[.val (.int ja), .val (.int jb), .val (.int kk), .val (.int (3 : Int32)), .val (.ref b1), .val (.ref b3), .unset, .unset] [(.ref b10)])) _
    refine XS.astore X11.here hx rfl (hb hby at_55) rfl rfl (l' := #[.val (.int ja), .val (.int jb), .val (.int kk), .val (.int (3 : Int32)), .val (.ref b1), .val (.ref b3), .val (.ref b10), .unset]) rfl ?_
    show Steps p.tables e below (T11.setTop (mkF m 57 #[.val (.int ja), .val (.int jb), .val (.int kk), .val (.int (3 : Int32)), .val (.ref b1), .val (.ref b3), .val (.ref b10), .unset] [])) _
    refine XS.iloadN X11.here hx rfl (hb hby at_57) rfl ?_
    show Steps p.tables e below (T11.setTop (mkF m 58 #[.val (.int ja), .val (.int jb), .val (.int kk), .val (.int (3 : Int32)), .val (.ref b1), .val (.ref b3), .val (.ref b10), .unset] [(.int (3 : Int32))])) _
    refine XS.ifNo X11.here hx rfl (hb hby at_58) rfl ((if0 _ _).trans (tlt (by decide : (0 : Int32) < (3 : Int32))).2.2.2) ?_
    show Steps p.tables e below (T11.setTop (mkF m 61 #[.val (.int ja), .val (.int jb), .val (.int kk), .val (.int (3 : Int32)), .val (.ref b1), .val (.ref b3), .val (.ref b10), .unset] [])) _
    refine XS.aload X11.here hx rfl (hb hby at_61) rfl rfl ?_
    show Steps p.tables e below (T11.setTop (mkF m 63 #[.val (.int ja), .val (.int jb), .val (.int kk), .val (.int (3 : Int32)), .val (.ref b1), .val (.ref b3), .val (.ref b10), .unset] [(.ref b10)])) _
    refine XS.aload X11.here hx rfl (hb hby at_63) rfl rfl ?_
    show Steps p.tables e below (T11.setTop (mkF m 65 #[.val (.int ja), .val (.int jb), .val (.int kk), .val (.int (3 : Int32)), .val (.ref b1), .val (.ref b3), .val (.ref b10), .unset] [(.ref b3), (.ref b10)])) _
    refine st13.trans ?_
    show Steps p.tables e below (T13.setTop (mkF m 68 #[.val (.int ja), .val (.int jb), .val (.int kk), .val (.int (3 : Int32)), .val (.ref b1), .val (.ref b3), .val (.ref b10), .unset] [(.int (1 : Int32))])) _
    refine XS.pop X13.here hx rfl (hb hby at_68) rfl rfl ?_
    show Steps p.tables e below (T13.setTop (mkF m 69 #[.val (.int ja), .val (.int jb), .val (.int kk), .val (.int (3 : Int32)), .val (.ref b1), .val (.ref b3), .val (.ref b10), .unset] [])) _
    refine XS.iloadN X13.here hx rfl (hb hby at_69) rfl ?_
    show Steps p.tables e below (T13.setTop (mkF m 70 #[.val (.int ja), .val (.int jb), .val (.int kk), .val (.int (3 : Int32)), .val (.ref b1), .val (.ref b3), .val (.ref b10), .unset] [(.int (3 : Int32))])) _
    refine XS.iconst X13.here hx rfl (hb hby at_70) ?_
    show Steps p.tables e below (T13.setTop (mkF m 71 #[.val (.int ja), .val (.int jb), .val (.int kk), .val (.int (3 : Int32)), .val (.ref b1), .val (.ref b3), .val (.ref b10), .unset] [(.int (1 : Int32)), (.int (3 : Int32))])) _
    refine XS.icmpNo X13.here hx rfl (hb hby at_71) rfl (tlt (by decide : (1 : Int32) < (3 : Int32))).2.2.2 ?_
    show Steps p.tables e below (T13.setTop (mkF m 74 #[.val (.int ja), .val (.int jb), .val (.int kk), .val (.int (3 : Int32)), .val (.ref b1), .val (.ref b3), .val (.ref b10), .unset] [])) _
    refine XS.aload X13.here hx rfl (hb hby at_74) rfl rfl ?_
    show Steps p.tables e below (T13.setTop (mkF m 76 #[.val (.int ja), .val (.int jb), .val (.int kk), .val (.int (3 : Int32)), .val (.ref b1), .val (.ref b3), .val (.ref b10), .unset] [(.ref b10)])) _
    refine XS.aload X13.here hx rfl (hb hby at_76) rfl rfl ?_
    show Steps p.tables e below (T13.setTop (mkF m 78 #[.val (.int ja), .val (.int jb), .val (.int kk), .val (.int (3 : Int32)), .val (.ref b1), .val (.ref b3), .val (.ref b10), .unset] [(.ref b3), (.ref b10)])) _
    refine st17.trans ?_
    show Steps p.tables e below (T17.setTop (mkF m 81 #[.val (.int ja), .val (.int jb), .val (.int kk), .val (.int (3 : Int32)), .val (.ref b1), .val (.ref b3), .val (.ref b10), .unset] [(.int (1 : Int32))])) _
    refine XS.pop X17.here hx rfl (hb hby at_81) rfl rfl ?_
    show Steps p.tables e below (T17.setTop (mkF m 82 #[.val (.int ja), .val (.int jb), .val (.int kk), .val (.int (3 : Int32)), .val (.ref b1), .val (.ref b3), .val (.ref b10), .unset] [])) _
    refine XS.iloadN X17.here hx rfl (hb hby at_82) rfl ?_
    show Steps p.tables e below (T17.setTop (mkF m 83 #[.val (.int ja), .val (.int jb), .val (.int kk), .val (.int (3 : Int32)), .val (.ref b1), .val (.ref b3), .val (.ref b10), .unset] [(.int (3 : Int32))])) _
    refine XS.iconst X17.here hx rfl (hb hby at_83) ?_
    show Steps p.tables e below (T17.setTop (mkF m 84 #[.val (.int ja), .val (.int jb), .val (.int kk), .val (.int (3 : Int32)), .val (.ref b1), .val (.ref b3), .val (.ref b10), .unset] [(.int (2 : Int32)), (.int (3 : Int32))])) _
    refine XS.icmpNo X17.here hx rfl (hb hby at_84) rfl (tlt (by decide : (2 : Int32) < (3 : Int32))).2.2.2 ?_
    show Steps p.tables e below (T17.setTop (mkF m 87 #[.val (.int ja), .val (.int jb), .val (.int kk), .val (.int (3 : Int32)), .val (.ref b1), .val (.ref b3), .val (.ref b10), .unset] [])) _
    refine XS.aload X17.here hx rfl (hb hby at_87) rfl rfl ?_
    show Steps p.tables e below (T17.setTop (mkF m 89 #[.val (.int ja), .val (.int jb), .val (.int kk), .val (.int (3 : Int32)), .val (.ref b1), .val (.ref b3), .val (.ref b10), .unset] [(.ref b10)])) _
    refine XS.aload X17.here hx rfl (hb hby at_89) rfl rfl ?_
    show Steps p.tables e below (T17.setTop (mkF m 91 #[.val (.int ja), .val (.int jb), .val (.int kk), .val (.int (3 : Int32)), .val (.ref b1), .val (.ref b3), .val (.ref b10), .unset] [(.ref b3), (.ref b10)])) _
    refine st19.trans ?_
    show Steps p.tables e below (T19.setTop (mkF m 94 #[.val (.int ja), .val (.int jb), .val (.int kk), .val (.int (3 : Int32)), .val (.ref b1), .val (.ref b3), .val (.ref b10), .unset] [(.int (1 : Int32))])) _
    refine XS.pop X19.here hx rfl (hb hby at_94) rfl rfl ?_
    show Steps p.tables e below (T19.setTop (mkF m 95 #[.val (.int ja), .val (.int jb), .val (.int kk), .val (.int (3 : Int32)), .val (.ref b1), .val (.ref b3), .val (.ref b10), .unset] [])) _
    refine XS.iloadN X19.here hx rfl (hb hby at_95) rfl ?_
    show Steps p.tables e below (T19.setTop (mkF m 96 #[.val (.int ja), .val (.int jb), .val (.int kk), .val (.int (3 : Int32)), .val (.ref b1), .val (.ref b3), .val (.ref b10), .unset] [(.int (3 : Int32))])) _
    refine XS.iconst X19.here hx rfl (hb hby at_96) ?_
    show Steps p.tables e below (T19.setTop (mkF m 97 #[.val (.int ja), .val (.int jb), .val (.int kk), .val (.int (3 : Int32)), .val (.ref b1), .val (.ref b3), .val (.ref b10), .unset] [(.int (3 : Int32)), (.int (3 : Int32))])) _
    refine XS.icmpYes X19.here hx rfl (pc0 := 97) (pc' := 108) rfl (hb hby at_97) rfl (flt (by decide : ¬ ((3 : Int32) < (3 : Int32)))).2.2.2 (by decide) (by decide) ?_
    show Steps p.tables e below (T19.setTop (mkF m 108 #[.val (.int ja), .val (.int jb), .val (.int kk), .val (.int (3 : Int32)), .val (.ref b1), .val (.ref b3), .val (.ref b10), .unset] [])) _
    refine XS.iloadN X19.here hx rfl (hb hby at_108) rfl ?_
    show Steps p.tables e below (T19.setTop (mkF m 109 #[.val (.int ja), .val (.int jb), .val (.int kk), .val (.int (3 : Int32)), .val (.ref b1), .val (.ref b3), .val (.ref b10), .unset] [(.int (3 : Int32))])) _
    refine XS.iconst X19.here hx rfl (hb hby at_109) ?_
    show Steps p.tables e below (T19.setTop (mkF m 110 #[.val (.int ja), .val (.int jb), .val (.int kk), .val (.int (3 : Int32)), .val (.ref b1), .val (.ref b3), .val (.ref b10), .unset] [(.int (4 : Int32)), (.int (3 : Int32))])) _
    refine XS.icmpYes X19.here hx rfl (pc0 := 110) (pc' := 121) rfl (hb hby at_110) rfl (flt (by decide : ¬ ((4 : Int32) < (3 : Int32)))).2.2.2 (by decide) (by decide) ?_
    show Steps p.tables e below (T19.setTop (mkF m 121 #[.val (.int ja), .val (.int jb), .val (.int kk), .val (.int (3 : Int32)), .val (.ref b1), .val (.ref b3), .val (.ref b10), .unset] [])) _
    refine XS.iloadN X19.here hx rfl (hb hby at_121) rfl ?_
    show Steps p.tables e below (T19.setTop (mkF m 122 #[.val (.int ja), .val (.int jb), .val (.int kk), .val (.int (3 : Int32)), .val (.ref b1), .val (.ref b3), .val (.ref b10), .unset] [(.int (3 : Int32))])) _
    refine XS.iconst X19.here hx rfl (hb hby at_122) ?_
    show Steps p.tables e below (T19.setTop (mkF m 123 #[.val (.int ja), .val (.int jb), .val (.int kk), .val (.int (3 : Int32)), .val (.ref b1), .val (.ref b3), .val (.ref b10), .unset] [(.int (5 : Int32)), (.int (3 : Int32))])) _
    refine XS.icmpYes X19.here hx rfl (pc0 := 123) (pc' := 134) rfl (hb hby at_123) rfl (flt (by decide : ¬ ((5 : Int32) < (3 : Int32)))).2.2.2 (by decide) (by decide) ?_
    show Steps p.tables e below (T19.setTop (mkF m 134 #[.val (.int ja), .val (.int jb), .val (.int kk), .val (.int (3 : Int32)), .val (.ref b1), .val (.ref b3), .val (.ref b10), .unset] [])) _
    refine XS.iloadN X19.here hx rfl (hb hby at_134) rfl ?_
    show Steps p.tables e below (T19.setTop (mkF m 135 #[.val (.int ja), .val (.int jb), .val (.int kk), .val (.int (3 : Int32)), .val (.ref b1), .val (.ref b3), .val (.ref b10), .unset] [(.int (3 : Int32))])) _
    refine XS.bipush X19.here hx rfl (hb hby at_135) ?_
    show Steps p.tables e below (T19.setTop (mkF m 137 #[.val (.int ja), .val (.int jb), .val (.int kk), .val (.int (3 : Int32)), .val (.ref b1), .val (.ref b3), .val (.ref b10), .unset] [(.int (6 : Int32)), (.int (3 : Int32))])) _
    refine XS.icmpYes X19.here hx rfl (pc0 := 137) (pc' := 148) rfl (hb hby at_137) rfl (flt (by decide : ¬ ((6 : Int32) < (3 : Int32)))).2.2.2 (by decide) (by decide) ?_
    show Steps p.tables e below (T19.setTop (mkF m 148 #[.val (.int ja), .val (.int jb), .val (.int kk), .val (.int (3 : Int32)), .val (.ref b1), .val (.ref b3), .val (.ref b10), .unset] [])) _
    refine XS.iloadN X19.here hx rfl (hb hby at_148) rfl ?_
    show Steps p.tables e below (T19.setTop (mkF m 149 #[.val (.int ja), .val (.int jb), .val (.int kk), .val (.int (3 : Int32)), .val (.ref b1), .val (.ref b3), .val (.ref b10), .unset] [(.int (3 : Int32))])) _
    refine XS.iloadN X19.here hx rfl (hb hby at_149) rfl ?_
    show Steps p.tables e below (T19.setTop (mkF m 150 #[.val (.int ja), .val (.int jb), .val (.int kk), .val (.int (3 : Int32)), .val (.ref b1), .val (.ref b3), .val (.ref b10), .unset] [(.int kk), (.int (3 : Int32))])) _
    refine XS.icmpNo X19.here hx rfl (hb hby at_150) rfl (flt hrd).2.2.1 ?_
    show Steps p.tables e below (T19.setTop (mkF m 153 #[.val (.int ja), .val (.int jb), .val (.int kk), .val (.int (3 : Int32)), .val (.ref b1), .val (.ref b3), .val (.ref b10), .unset] [])) _
    refine XS.iconst X19.here hx rfl (hb hby at_153) ?_
    show Steps p.tables e below (T19.setTop (mkF m 154 #[.val (.int ja), .val (.int jb), .val (.int kk), .val (.int (3 : Int32)), .val (.ref b1), .val (.ref b3), .val (.ref b10), .unset] [(.int (1 : Int32))])) _
    refine XS.goto X19.here hx rfl (pc0 := 154) (pc' := 158) rfl (hb hby at_154) (by decide) (by decide) ?_
    show Steps p.tables e below (T19.setTop (mkF m 158 #[.val (.int ja), .val (.int jb), .val (.int kk), .val (.int (3 : Int32)), .val (.ref b1), .val (.ref b3), .val (.ref b10), .unset] [(.int (1 : Int32))])) _
    refine XS.istore X19.here hx rfl (hb hby at_158) rfl (l' := #[.val (.int ja), .val (.int jb), .val (.int kk), .val (.int (3 : Int32)), .val (.ref b1), .val (.ref b3), .val (.ref b10), .val (.int (1 : Int32))]) rfl ?_
    show Steps p.tables e below (T19.setTop (mkF m 160 #[.val (.int ja), .val (.int jb), .val (.int kk), .val (.int (3 : Int32)), .val (.ref b1), .val (.ref b3), .val (.ref b10), .val (.int (1 : Int32))] [])) _
    refine XS.aload X19.here hx rfl (hb hby at_160) rfl rfl ?_
    show Steps p.tables e below (T19.setTop (mkF m 162 #[.val (.int ja), .val (.int jb), .val (.int kk), .val (.int (3 : Int32)), .val (.ref b1), .val (.ref b3), .val (.ref b10), .val (.int (1 : Int32))] [(.ref b1)])) _
    refine XS.aload X19.here hx rfl (hb hby at_162) rfl rfl ?_
    show Steps p.tables e below (T19.setTop (mkF m 164 #[.val (.int ja), .val (.int jb), .val (.int kk), .val (.int (3 : Int32)), .val (.ref b1), .val (.ref b3), .val (.ref b10), .val (.int (1 : Int32))] [(.ref b10), (.ref b1)])) _
    refine st21.trans ?_
    show Steps p.tables e below (T21.setTop (mkF m 167 #[.val (.int ja), .val (.int jb), .val (.int kk), .val (.int (3 : Int32)), .val (.ref b1), .val (.ref b3), .val (.ref b10), .val (.int (1 : Int32))] [(.int (1 : Int32))])) _
    refine XS.iload X21.here hx rfl (hb hby at_167) rfl ?_
    show Steps p.tables e below (T21.setTop (mkF m 169 #[.val (.int ja), .val (.int jb), .val (.int kk), .val (.int (3 : Int32)), .val (.ref b1), .val (.ref b3), .val (.ref b10), .val (.int (1 : Int32))] [(.int (1 : Int32)), (.int (1 : Int32))])) _
    refine XS.icmpNo X21.here hx rfl (hb hby at_169) rfl (teq (rfl : (1 : Int32) = (1 : Int32))).2 ?_
    show Steps p.tables e below (T21.setTop (mkF m 172 #[.val (.int ja), .val (.int jb), .val (.int kk), .val (.int (3 : Int32)), .val (.ref b1), .val (.ref b3), .val (.ref b10), .val (.int (1 : Int32))] [])) _
    refine XS.iconst X21.here hx rfl (hb hby at_172) ?_
    show Steps p.tables e below (T21.setTop (mkF m 173 #[.val (.int ja), .val (.int jb), .val (.int kk), .val (.int (3 : Int32)), .val (.ref b1), .val (.ref b3), .val (.ref b10), .val (.int (1 : Int32))] [(.int (1 : Int32))])) _
    refine XS.goto X21.here hx rfl (pc0 := 173) (pc' := 177) rfl (hb hby at_173) (by decide) (by decide) ?_
    show Steps p.tables e below (T21.setTop (mkF m 177 #[.val (.int ja), .val (.int jb), .val (.int kk), .val (.int (3 : Int32)), .val (.ref b1), .val (.ref b3), .val (.ref b10), .val (.int (1 : Int32))] [(.int (1 : Int32))])) _
    exact retN X21 hx (t := .boolean) Bd.returns (by simp) (hb hby at_177) hr
  · show Q_rm0_3f Z ja jb kk de kd h0 n0 _ T21.heap _
    rw [e21]
    exact ⟨rfl, N21⟩
def Q_rm0_4t (Z : State) (ja : Int32) (jb : Int32) (kk : Int32) (de : Addr) (kd : ClassId) (h0 : Heap) (n0 : Nat) (v : Option Value) (h : Heap) (L : List Loc) : Prop := v = some (.int (1 : Int32)) ∧ Fr n0 L
theorem ef_rm0_4t (m : MethodId) (ja : Int32) (jb : Int32) : entryFrame m #[(.int ja), (.int jb)] maxLocals = mkF m 0 #[.val (.int ja), .val (.int jb), .unset, .unset, .unset, .unset, .unset, .unset] [] := by first | (simp [entryFrame, mkF, argsToLocals, Value.category, maxLocals]; done) | rfl
set_option maxRecDepth 65536 in
set_option maxHeartbeats 40000000 in
theorem rm0_4t (l : Launch) (Z : State) (a0 : Array Value) (hw : ∀ d ∈ tables_1, d.before a0 Z = true) (ws : List Jvm.Cond) (ja : Int32) (jb : Int32) (kk : Int32) (de : Addr) (kd : ClassId) (h0 : Heap) (n0 : Nat) (Z0 : n0 ≤ h0.size) (hwS : ∀ a ∈ Bundle.stringAtoms, a.before a0 Z = true) (hn0 : n0 = h0.size) (hcn : Jvm.Lit.constHeld Z "com/example/sortition/sortition/SlotsAllowsPinLaw" 15) (hcw : Jvm.Lit.compactW.before a0 Z = true) (S_DE : Sta Z h0 "java/util/ArrayList" "DEFAULTCAPACITY_EMPTY_ELEMENTDATA" "[Ljava/lang/Object;" (.ref de)) (V_de : Arv Z h0 de kd (.object "java/lang/Object") (0 : Int32) [] .null) (hkk : (own_k ja jb) = kk) (gkk : ¬ (kk < (0 : Int32))) (hn : (jb &&& (7 : Int32)) = (4 : Int32)) (hrd : kk < (4 : Int32)) :
    MetFree l x (head1 (Jvm.Cond.code x code maxLocals ret :: ws) room_1) (fun a U => a = #[(.int ja), (.int jb)] ∧ Z.Warmed39 U.vm ∧ U.heap = h0 ∧ U.vm.interned = Z.vm.interned ∧ (∀ (b : Addr) (cl : Cell), Z.heap[b]? = some cl → U.heap[b]? = some cl)) (fun _ _ _ _ _ => True) (fun _ U o U' => ∃ v L, o = .returned v ∧ Q_rm0_4t Z ja jb kk de kd h0 n0 v U'.heap L ∧ ReturnedEndW U o U' L room_1.cells room_1.slots) := by
  refine MetFree.of_bodySF (plainFor_of_name pn_8) hisR ?_
  intro p e s m args below meth c s₁ Bd hml0 hP hK
  obtain ⟨rfl, hZ, hh, hI0, hK0⟩ := hP
  have hx := Bd.exec
  have hby := Bd.bytes
  have hml : c.maxLocals = 8 := hml0
  have hown : s.vm.findClass "com/example/sortition/sortition/SlotsAllowsPinLaw" = some m.cls := findClass_of_methodNamed Bd.named
  have hnm := (name_of_methodNamed Bd.named Bd.method).1
  have X0 : Stand p l e room_1 s m #[(.int ja), (.int jb)] below meth c s₁ [] 0 0 := Stand.of_body Bd
  have e0 : s₁.heap = h0 := by rw [← hh, Bd.state]; rfl
  have N0 := Fr.nil n0
  have hS0 := (State.WarmedH.refl s).since 0
  have pre0 : ∀ t, Steps p.tables e below (s₁.setTop (mkF m 0 #[.val (.int ja), .val (.int jb), .unset, .unset, .unset, .unset, .unset, .unset] [])) t → Steps p.tables e below (s₁.setTop (entryFrame m #[(.int ja), (.int jb)] maxLocals)) t := fun t k => castTop (ef_rm0_4t m ja jb) k
  have stp := own_pre ja jb X0 hx hZ hw hby hown
  rw [hkk] at stp
  obtain ⟨T1, h1, X1, e1, E1, A1, D1, -, st1⟩ := newO X0 hx hZ hown (ow hw 0 rfl) (ow hw 1 rfl) (ow hw 2 rfl) e0 (g := (mkF m 25 #[.val (.int ja), .val (.int jb), .val (.int kk), .val (.int (4 : Int32)), .unset, .unset, .unset, .unset] [])) rfl (hb hby at_25) (by decide) (by decide)
  obtain ⟨b1, g1⟩ : ∃ z, z = h0.size := ⟨_, rfl⟩
  rw [← g1] at A1 D1 st1
  have F1_3 : Fld Z h1 b1 "com/example/sortition/sortition/Slots" "size" "I" (.int (0 : Int32)) := D1 (Or.inr (ow hw 15 rfl)) (ty := .int) (by decide)
  obtain ⟨_, _, ⟨T2, L2, k2, n2⟩, -, X2, ⟨Lc2, hQ2, l2, y2, z2⟩, st2⟩ := X1.specialBack hx (y := (⟨"com/example/sortition/sortition/Slots", "<init>", "(I)V"⟩ : MethodName)) rfl hown (mvT hZ (ow hw 3 rfl)) (mvT hZ (ow hw 4 rfl)) (mvT hZ (ow hw 5 rfl)) (by decide) (backOf (W := 1) (rmSl l Z a0 hw [] b1 kk (.int (0 : Int32)) h1 n0 (Nat.le_trans Z0 E1.1) gkk F1_3 A1 (Nat.le_trans Z0 (Nat.le_of_eq g1.symm))) hZ (ow hw 5 rfl) (ow hw 2 rfl) (by decide) (by decide)) (g := (mkF m 30 #[.val (.int ja), .val (.int jb), .val (.int kk), .val (.int (4 : Int32)), .unset, .unset, .unset, .unset] [(.int kk), (.ref b1), (.ref b1)])) rfl (by rw [hml]; rfl) (Steps.refl _) (a := b1) (argsL := [(.int kk)]) (rest := [(.ref b1)]) (lenOf pd_8 rfl) rfl (by show 2 * 0 + _ ≤ _; exact Nat.le_of_eq rfl) (hb hby at_30) (fun _ _ => ⟨rfl, e1, (by decide : 1 + 0 ≤ _), (by decide : 1 + 0 ≤ _)⟩)
  dsimp only [Pt.U, Pt.locs, Pt.cells, Pt.slots] at X2 l2 y2 z2 st2 hQ2
  subst l2 y2 z2
  obtain ⟨rfl, Nq2, Kp2, Fq2_0, Fq2_1⟩ := hQ2
  have N2 := Fr.app N0 Nq2
  obtain ⟨T3, h3, X3, e3, E3, A3, D3, -, st3⟩ := newO X2 hx hZ hown (ow hw 16 rfl) (ow hw 17 rfl) (ow hw 18 rfl) rfl (g := (mkF m 35 #[.val (.int ja), .val (.int jb), .val (.int kk), .val (.int (4 : Int32)), .val (.ref b1), .unset, .unset, .unset] [])) rfl (hb hby at_35) (by decide) (by decide)
  obtain ⟨b3, g3⟩ : ∃ z, z = T2.heap.size := ⟨_, rfl⟩
  rw [← g3] at A3 D3 st3
  have F3_5 : Fld Z h3 b3 "com/example/sortition/sortition/Element" "index" "I" (.int (0 : Int32)) := D3 (Or.inr (ow hw 44 rfl)) (ty := .int) (by decide)
  have F3_6 : Fld Z h3 b3 "com/example/sortition/sortition/Element" "id" "Ljava/lang/String;" .null := D3 (Or.inr (ow hw 46 rfl)) (ty := (.object "java/lang/String")) (by decide)
  have F3_7 : Fld Z h3 b3 "com/example/sortition/sortition/Element" "value" "D" (.double 0) := D3 (Or.inr (ow hw 48 rfl)) (ty := .double) (by decide)
  obtain ⟨a4, T4, h4, k4, b4, kc4, X4, e4, E4, hS4, hk4, hZ4, hown4, A4, -, Fv4, V4, -, -, -, st4⟩ := ldcSV (s := s) (vm0 := s.vm) X3 hx hZ hown (ow hw 19 rfl) hwS e3 hS0 (Nat.le_trans (Nat.le_trans (Nat.le_trans (Nat.zero_le _) E1.1) Kp2.1) E3.1) (by rw [hh, ← hn0]; exact N2) hK0 (⟨#[], by simpa using hI0, fun q hq => by simp at hq⟩ : IB Z s.vm []) (by simp) hcn hcw (vs := [(.int (120 : Int32))]) (z := (1 : Int32)) ⟨by decide, by decide⟩ (by decide) rfl (g := (mkF m 40 #[.val (.int ja), .val (.int jb), .val (.int kk), .val (.int (4 : Int32)), .val (.ref b1), .unset, .unset, .unset] [(.int (0 : Int32)), (.ref b3), (.ref b3)])) rfl (hb hby at_40) (n := 4) (by decide) (by decide) (by decide) (by decide)
  have f6 : Fld Z h4 b3 "com/example/sortition/sortition/Element" "index" "I" (.int (0 : Int32)) := (F3_5.ext E4)
  have f7 : Exa Z h4 b3 "com/example/sortition/sortition/Element" := (A3.ext E4)
  have f8 : Fld Z h4 b3 "com/example/sortition/sortition/Element" "id" "Ljava/lang/String;" .null := (F3_6.ext E4)
  have f9 : Fld Z h4 b3 "com/example/sortition/sortition/Element" "value" "D" (.double 0) := (F3_7.ext E4)
  obtain ⟨_, _, ⟨T5, L5, k5, n5⟩, -, X5, hSq5, hgq5, ⟨Lc5, hQ5, l5, y5, z5⟩, st5⟩ := X4.specialBackS hx (y := (⟨"com/example/sortition/sortition/Element", "<init>", "(ILjava/lang/String;D)V"⟩ : MethodName)) rfl hown4 (mvT hZ4 (ow hw 27 rfl)) (mvT hZ4 (ow hw 28 rfl)) (mvT hZ4 (ow hw 29 rfl)) (by decide) (backOfS (W := 1) (rmEI l Z a0 hw [] b3 (0 : Int32) a4 4607182418800017408 b4 kc4 [(.int (120 : Int32))] (.int (0 : Int32)) .null (.double 0) h4 n0 (Nat.le_trans (Nat.le_trans (Nat.le_trans (Nat.le_trans Z0 E1.1) Kp2.1) E3.1) E4.1) hwS A4 Fv4 V4 (by first | assumption | decide) (by decide +kernel) (by decide +kernel) own_nn1 f6 f7 (Nat.le_trans (Nat.le_trans (Nat.le_trans Z0 E1.1) Kp2.1) (Nat.le_of_eq g3.symm)) f8 f9) hZ4 (ow hw 29 rfl) (ow hw 18 rfl) (by decide) (by decide)) (g := (mkF m 43 #[.val (.int ja), .val (.int jb), .val (.int kk), .val (.int (4 : Int32)), .val (.ref b1), .unset, .unset, .unset] [(.double 4607182418800017408), (.ref a4), (.int (0 : Int32)), (.ref b3), (.ref b3)])) rfl (by rw [hml]; rfl) (Steps.refl _) (a := b3) (argsL := [(.int (0 : Int32)), (.ref a4), (.double 4607182418800017408)]) (rest := [(.ref b3)]) (lenOf pd_9 rfl) rfl (by show 2 * 0 + _ ≤ _; exact Nat.le_of_eq rfl) (hb hby at_43) (fun _ _ => ⟨rfl, e4, (by decide : 4 + 2 ≤ _), (by decide : 12 + 12 ≤ _)⟩)
  dsimp only [Pt.U, Pt.locs, Pt.cells, Pt.slots] at X5 l5 y5 z5 st5 hQ5 hSq5 hgq5
  subst l5 y5 z5
  obtain ⟨X5, hS5, hZ5, hown5⟩ := rebS (s := s) (vm0 := T4.vm) hS4 (by rw [e4]; exact hk4) X5 hSq5 hgq5 hZ4 hown4
  obtain ⟨rfl, Nq5, Kp5, Fq5_0, Fq5_1, Fq5_2⟩ := hQ5
  have N5 := Fr.app N2 Nq5
  obtain ⟨T10, h10, X10, e10, E10, A10, D10, -, st10⟩ := newO X5 hx hZ5 hown5 (ow hw 49 rfl) (ow hw 50 rfl) (ow hw 51 rfl) rfl (g := (mkF m 48 #[.val (.int ja), .val (.int jb), .val (.int kk), .val (.int (4 : Int32)), .val (.ref b1), .val (.ref b3), .unset, .unset] [])) rfl (hb hby at_48) (by decide) (by decide)
  obtain ⟨b10, g10⟩ : ∃ z, z = T5.heap.size := ⟨_, rfl⟩
  rw [← g10] at A10 D10 st10
  have F10_12 : Fld Z h10 b10 "java/util/AbstractList" "modCount" "I" (.int (0 : Int32)) := D10 (Or.inl (ow hw 69 rfl)) (ty := .int) (by decide)
  have F10_13 : Fld Z h10 b10 "java/util/ArrayList" "elementData" "[Ljava/lang/Object;" .null := D10 (Or.inl (ow hw 72 rfl)) (ty := (.array (.object "java/lang/Object"))) (by decide)
  have F10_14 : Fld Z h10 b10 "java/util/ArrayList" "size" "I" (.int (0 : Int32)) := D10 (Or.inl (ow hw 81 rfl)) (ty := .int) (by decide)
  have f12 : Sta Z h10 "java/util/ArrayList" "DEFAULTCAPACITY_EMPTY_ELEMENTDATA" "[Ljava/lang/Object;" (.ref de) := ((Sta_keep (((Sta_keep (S_DE.ext E1) Kp2 (nsS A1.nostat ns0)).ext E3).ext E4) Kp5 (nsS f7.nostat ns0)).ext E10)
  obtain ⟨_, _, ⟨T11, L11, k11, n11⟩, -, X11, ⟨Lc11, hQ11, l11, y11, z11⟩, st11⟩ := X10.specialBack hx (y := (⟨"java/util/ArrayList", "<init>", "()V"⟩ : MethodName)) rfl hown5 (mvT hZ5 (ow hw 52 rfl)) (mvT hZ5 (ow hw 53 rfl)) (mvT hZ5 (ow hw 54 rfl)) (by decide) (backOf (W := 1) (rmAL l Z a0 hw [] b10 de (.int (0 : Int32)) .null h10 n0 (Nat.le_trans (Nat.le_trans (Nat.le_trans (Nat.le_trans (Nat.le_trans (Nat.le_trans Z0 E1.1) Kp2.1) E3.1) E4.1) Kp5.1) E10.1) A10 F10_12 F10_13 f12 F10_14 (Nat.le_trans (Nat.le_trans (Nat.le_trans (Nat.le_trans (Nat.le_trans (Nat.le_trans Z0 E1.1) Kp2.1) E3.1) E4.1) Kp5.1) (Nat.le_of_eq g10.symm))) hZ5 (ow hw 54 rfl) (ow hw 51 rfl) (by decide) (by decide)) (g := (mkF m 52 #[.val (.int ja), .val (.int jb), .val (.int kk), .val (.int (4 : Int32)), .val (.ref b1), .val (.ref b3), .unset, .unset] [(.ref b10), (.ref b10)])) rfl (by rw [hml]; rfl) (Steps.refl _) (a := b10) (argsL := []) (rest := [(.ref b10)]) (lenOf pd_0 rfl) rfl (by show 2 * 0 + _ ≤ _; exact Nat.le_of_eq rfl) (hb hby at_52) (fun _ _ => ⟨rfl, e10, (by decide : 7 + 0 ≤ _), (by decide : 27 + 0 ≤ _)⟩)
  dsimp only [Pt.U, Pt.locs, Pt.cells, Pt.slots] at X11 l11 y11 z11 st11 hQ11
  subst l11 y11 z11
  obtain ⟨rfl, Nq11, Kp11, Fq11_0, Fq11_1, Fq11_2, Fq11_3⟩ := hQ11
  have N11 := Fr.app N5 Nq11
  have f14 : Arv Z T11.heap de kd (.object "java/lang/Object") (0 : Int32) [] .null := (((((((V_de.ext E1).keep Kp2 (ninS (Nat.ne_of_lt (Nat.lt_of_lt_of_le V_de.lt (Nat.le_of_eq g1.symm))) nin0)).ext E3).ext E4).keep Kp5 (ninS (Nat.ne_of_lt (Nat.lt_of_lt_of_le ((V_de.ext E1).keep Kp2 (ninS (Nat.ne_of_lt (Nat.lt_of_lt_of_le V_de.lt (Nat.le_of_eq g1.symm))) nin0)).lt (Nat.le_of_eq g3.symm))) nin0)).ext E10).keep Kp11 (ninS (Nat.ne_of_lt (Nat.lt_of_lt_of_le (((((V_de.ext E1).keep Kp2 (ninS (Nat.ne_of_lt (Nat.lt_of_lt_of_le V_de.lt (Nat.le_of_eq g1.symm))) nin0)).ext E3).ext E4).keep Kp5 (ninS (Nat.ne_of_lt (Nat.lt_of_lt_of_le ((V_de.ext E1).keep Kp2 (ninS (Nat.ne_of_lt (Nat.lt_of_lt_of_le V_de.lt (Nat.le_of_eq g1.symm))) nin0)).lt (Nat.le_of_eq g3.symm))) nin0)).lt (Nat.le_of_eq g10.symm))) nin0))
  have f15 : Sta Z T11.heap "java/util/ArrayList" "DEFAULTCAPACITY_EMPTY_ELEMENTDATA" "[Ljava/lang/Object;" (.ref de) := (Sta_keep f12 Kp11 (nsS A10.nostat ns0))
  have f16 : Exa Z T11.heap b3 "com/example/sortition/sortition/Element" := ((Fq5_0.ext E10).keep Kp11)
  obtain ⟨cq13, kq13, q13a, q13b, q13c⟩ := isOf hZ5 rfl Fq11_0
  obtain ⟨_, _, ⟨T13, L13, k13, n13⟩, -, X13, ⟨Lc13, hQ13, l13, y13, z13⟩, st13⟩ := X11.virtualBack hx (y := (⟨"java/util/ArrayList", "add", "(Ljava/lang/Object;)Z"⟩ : MethodName)) (z := (⟨"java/util/ArrayList", "add", "(Ljava/lang/Object;)Z"⟩ : MethodName)) hown5 (mvT hZ5 (ow hw 73 rfl)) (mvT hZ5 (ow hw 74 rfl)) (notFace_of_selects (args := #[]) (mvT hZ5 (ow hw 76 rfl))) (mvT hZ5 (ow hw 76 rfl)) (mvT hZ5 (ow hw 75 rfl)) (by decide) (backOf (W := 0) (rmA0 l Z a0 hw [] b10 b3 de kd (0 : Int32) T11.heap n0 (Nat.le_trans (Nat.le_trans (Nat.le_trans (Nat.le_trans (Nat.le_trans (Nat.le_trans (Nat.le_trans Z0 E1.1) Kp2.1) E3.1) E4.1) Kp5.1) E10.1) Kp11.1) Fq11_1 Fq11_0 Fq11_2 Fq11_3 f14 f15 f16 (Nat.le_trans (Nat.le_trans (Nat.le_trans (Nat.le_trans (Nat.le_trans (Nat.le_trans Z0 E1.1) Kp2.1) E3.1) E4.1) Kp5.1) (Nat.le_of_eq g10.symm)) (Nat.ne_of_lt (Nat.lt_of_lt_of_le (((((V_de.ext E1).keep Kp2 (ninS (Nat.ne_of_lt (Nat.lt_of_lt_of_le V_de.lt (Nat.le_of_eq g1.symm))) nin0)).ext E3).ext E4).keep Kp5 (ninS (Nat.ne_of_lt (Nat.lt_of_lt_of_le ((V_de.ext E1).keep Kp2 (ninS (Nat.ne_of_lt (Nat.lt_of_lt_of_le V_de.lt (Nat.le_of_eq g1.symm))) nin0)).lt (Nat.le_of_eq g3.symm))) nin0)).lt (Nat.le_of_eq g10.symm)))) hZ5 (ow hw 77 rfl) (ow hw 51 rfl) (by decide) (by decide)) q13a q13c (g := (mkF m 65 #[.val (.int ja), .val (.int jb), .val (.int kk), .val (.int (4 : Int32)), .val (.ref b1), .val (.ref b3), .val (.ref b10), .unset] [(.ref b3), (.ref b10)])) rfl (by rw [hml]; rfl) (Steps.refl _) (argsL := [(.ref b3)]) (rest := []) (lenOf pd_11 rfl) rfl (by show 2 * 0 + _ ≤ _; exact Nat.le_of_eq rfl) (hb hby at_65) (fun _ _ => ⟨rfl, rfl, (by decide : 7 + 1 ≤ _), (by decide : 27 + 10 ≤ _)⟩)
  dsimp only [Pt.U, Pt.locs, Pt.cells, Pt.slots] at X13 l13 y13 z13 st13 hQ13
  subst l13 y13 z13
  obtain ⟨nb_13, ka_13, rfl, Nq13, gb13_0, Kp13, Fq13_0, Fq13_1, Fq13_2, Fq13_3, Fq13_4, Pq13_0⟩ := hQ13
  have N13 := Fr.app N11 Nq13
  have f18 : Exa Z T13.heap b3 "com/example/sortition/sortition/Element" := (f16.keep Kp13)
  obtain ⟨cq17, kq17, q17a, q17b, q17c⟩ := isOf hZ5 rfl Fq13_0
  obtain ⟨_, _, ⟨T17, L17, k17, n17⟩, -, X17, ⟨Lc17, hQ17, l17, y17, z17⟩, st17⟩ := X13.virtualBack hx (y := (⟨"java/util/ArrayList", "add", "(Ljava/lang/Object;)Z"⟩ : MethodName)) (z := (⟨"java/util/ArrayList", "add", "(Ljava/lang/Object;)Z"⟩ : MethodName)) hown5 (mvT hZ5 (ow hw 73 rfl)) (mvT hZ5 (ow hw 74 rfl)) (notFace_of_selects (args := #[]) (mvT hZ5 (ow hw 76 rfl))) (mvT hZ5 (ow hw 76 rfl)) (mvT hZ5 (ow hw 75 rfl)) (by decide) (backOf (W := 0) (rmA1 l Z a0 hw [] b10 b3 nb_13 ka_13 ((0 : Int32) + (1 : Int32)) T13.heap n0 (Nat.le_trans (Nat.le_trans (Nat.le_trans (Nat.le_trans (Nat.le_trans (Nat.le_trans (Nat.le_trans (Nat.le_trans Z0 E1.1) Kp2.1) E3.1) E4.1) Kp5.1) E10.1) Kp11.1) Kp13.1) Fq13_1 Fq13_0 Fq13_2 Fq13_3 Fq13_4 Pq13_0 f18 (Nat.le_trans (Nat.le_trans (Nat.le_trans (Nat.le_trans (Nat.le_trans (Nat.le_trans Z0 E1.1) Kp2.1) E3.1) E4.1) Kp5.1) (Nat.le_of_eq g10.symm)) (Ne.symm (Nat.ne_of_lt (Nat.lt_of_lt_of_le Fq11_0.lt gb13_0))) (Nat.le_trans (Nat.le_trans (Nat.le_trans (Nat.le_trans (Nat.le_trans (Nat.le_trans (Nat.le_trans (Nat.le_trans Z0 E1.1) Kp2.1) E3.1) E4.1) Kp5.1) E10.1) Kp11.1) gb13_0)) hZ5 (ow hw 77 rfl) (ow hw 51 rfl) (by decide) (by decide)) q17a q17c (g := (mkF m 78 #[.val (.int ja), .val (.int jb), .val (.int kk), .val (.int (4 : Int32)), .val (.ref b1), .val (.ref b3), .val (.ref b10), .unset] [(.ref b3), (.ref b10)])) rfl (by rw [hml]; rfl) (Steps.refl _) (argsL := [(.ref b3)]) (rest := []) (lenOf pd_11 rfl) rfl (by show 2 * 0 + _ ≤ _; exact Nat.le_of_eq rfl) (hb hby at_78) (fun _ _ => ⟨rfl, rfl, (by decide : 8 + 0 ≤ _), (by decide : 37 + 0 ≤ _)⟩)
  dsimp only [Pt.U, Pt.locs, Pt.cells, Pt.slots] at X17 l17 y17 z17 st17 hQ17
  subst l17 y17 z17
  obtain ⟨rfl, Nq17, Kp17, Fq17_0, Fq17_1, Fq17_2, Fq17_3, Fq17_4⟩ := hQ17
  have N17 := Fr.app N13 Nq17
  have f20 : Exa Z T17.heap b3 "com/example/sortition/sortition/Element" := (f18.keep Kp17)
  obtain ⟨cq19, kq19, q19a, q19b, q19c⟩ := isOf hZ5 rfl Fq17_0
  obtain ⟨_, _, ⟨T19, L19, k19, n19⟩, -, X19, ⟨Lc19, hQ19, l19, y19, z19⟩, st19⟩ := X17.virtualBack hx (y := (⟨"java/util/ArrayList", "add", "(Ljava/lang/Object;)Z"⟩ : MethodName)) (z := (⟨"java/util/ArrayList", "add", "(Ljava/lang/Object;)Z"⟩ : MethodName)) hown5 (mvT hZ5 (ow hw 73 rfl)) (mvT hZ5 (ow hw 74 rfl)) (notFace_of_selects (args := #[]) (mvT hZ5 (ow hw 76 rfl))) (mvT hZ5 (ow hw 76 rfl)) (mvT hZ5 (ow hw 75 rfl)) (by decide) (backOf (W := 0) (rmA2 l Z a0 hw [] b10 b3 nb_13 ka_13 (((0 : Int32) + (1 : Int32)) + (1 : Int32)) T17.heap n0 (Nat.le_trans (Nat.le_trans (Nat.le_trans (Nat.le_trans (Nat.le_trans (Nat.le_trans (Nat.le_trans (Nat.le_trans (Nat.le_trans Z0 E1.1) Kp2.1) E3.1) E4.1) Kp5.1) E10.1) Kp11.1) Kp13.1) Kp17.1) Fq17_1 Fq17_0 Fq17_2 Fq17_3 Fq17_4 Pq13_0 f20 (Nat.le_trans (Nat.le_trans (Nat.le_trans (Nat.le_trans (Nat.le_trans (Nat.le_trans Z0 E1.1) Kp2.1) E3.1) E4.1) Kp5.1) (Nat.le_of_eq g10.symm)) (Ne.symm (Nat.ne_of_lt (Nat.lt_of_lt_of_le Fq11_0.lt gb13_0))) (Nat.le_trans (Nat.le_trans (Nat.le_trans (Nat.le_trans (Nat.le_trans (Nat.le_trans (Nat.le_trans (Nat.le_trans Z0 E1.1) Kp2.1) E3.1) E4.1) Kp5.1) E10.1) Kp11.1) gb13_0)) hZ5 (ow hw 77 rfl) (ow hw 51 rfl) (by decide) (by decide)) q19a q19c (g := (mkF m 91 #[.val (.int ja), .val (.int jb), .val (.int kk), .val (.int (4 : Int32)), .val (.ref b1), .val (.ref b3), .val (.ref b10), .unset] [(.ref b3), (.ref b10)])) rfl (by rw [hml]; rfl) (Steps.refl _) (argsL := [(.ref b3)]) (rest := []) (lenOf pd_11 rfl) rfl (by show 2 * 0 + _ ≤ _; exact Nat.le_of_eq rfl) (hb hby at_91) (fun _ _ => ⟨rfl, rfl, (by decide : 8 + 0 ≤ _), (by decide : 37 + 0 ≤ _)⟩)
  dsimp only [Pt.U, Pt.locs, Pt.cells, Pt.slots] at X19 l19 y19 z19 st19 hQ19
  subst l19 y19 z19
  obtain ⟨rfl, Nq19, Kp19, Fq19_0, Fq19_1, Fq19_2, Fq19_3, Fq19_4⟩ := hQ19
  have N19 := Fr.app N17 Nq19
  have f22 : Exa Z T19.heap b3 "com/example/sortition/sortition/Element" := (f20.keep Kp19)
  obtain ⟨cq21, kq21, q21a, q21b, q21c⟩ := isOf hZ5 rfl Fq19_0
  obtain ⟨_, _, ⟨T21, L21, k21, n21⟩, -, X21, ⟨Lc21, hQ21, l21, y21, z21⟩, st21⟩ := X19.virtualBack hx (y := (⟨"java/util/ArrayList", "add", "(Ljava/lang/Object;)Z"⟩ : MethodName)) (z := (⟨"java/util/ArrayList", "add", "(Ljava/lang/Object;)Z"⟩ : MethodName)) hown5 (mvT hZ5 (ow hw 73 rfl)) (mvT hZ5 (ow hw 74 rfl)) (notFace_of_selects (args := #[]) (mvT hZ5 (ow hw 76 rfl))) (mvT hZ5 (ow hw 76 rfl)) (mvT hZ5 (ow hw 75 rfl)) (by decide) (backOf (W := 0) (rmA3 l Z a0 hw [] b10 b3 nb_13 ka_13 ((((0 : Int32) + (1 : Int32)) + (1 : Int32)) + (1 : Int32)) T19.heap n0 (Nat.le_trans (Nat.le_trans (Nat.le_trans (Nat.le_trans (Nat.le_trans (Nat.le_trans (Nat.le_trans (Nat.le_trans (Nat.le_trans (Nat.le_trans Z0 E1.1) Kp2.1) E3.1) E4.1) Kp5.1) E10.1) Kp11.1) Kp13.1) Kp17.1) Kp19.1) Fq19_1 Fq19_0 Fq19_2 Fq19_3 Fq19_4 Pq13_0 f22 (Nat.le_trans (Nat.le_trans (Nat.le_trans (Nat.le_trans (Nat.le_trans (Nat.le_trans Z0 E1.1) Kp2.1) E3.1) E4.1) Kp5.1) (Nat.le_of_eq g10.symm)) (Ne.symm (Nat.ne_of_lt (Nat.lt_of_lt_of_le Fq11_0.lt gb13_0))) (Nat.le_trans (Nat.le_trans (Nat.le_trans (Nat.le_trans (Nat.le_trans (Nat.le_trans (Nat.le_trans (Nat.le_trans Z0 E1.1) Kp2.1) E3.1) E4.1) Kp5.1) E10.1) Kp11.1) gb13_0)) hZ5 (ow hw 77 rfl) (ow hw 51 rfl) (by decide) (by decide)) q21a q21c (g := (mkF m 104 #[.val (.int ja), .val (.int jb), .val (.int kk), .val (.int (4 : Int32)), .val (.ref b1), .val (.ref b3), .val (.ref b10), .unset] [(.ref b3), (.ref b10)])) rfl (by rw [hml]; rfl) (Steps.refl _) (argsL := [(.ref b3)]) (rest := []) (lenOf pd_11 rfl) rfl (by show 2 * 0 + _ ≤ _; exact Nat.le_of_eq rfl) (hb hby at_104) (fun _ _ => ⟨rfl, rfl, (by decide : 8 + 0 ≤ _), (by decide : 37 + 0 ≤ _)⟩)
  dsimp only [Pt.U, Pt.locs, Pt.cells, Pt.slots] at X21 l21 y21 z21 st21 hQ21
  subst l21 y21 z21
  obtain ⟨rfl, Nq21, Kp21, Fq21_0, Fq21_1, Fq21_2, Fq21_3, Fq21_4⟩ := hQ21
  have N21 := Fr.app N19 Nq21
  have f24 : Fld Z T21.heap b1 "com/example/sortition/sortition/Slots" "size" "I" (.int kk) := (((((((((Fq2_1.ext E3).ext E4).keep Kp5 (ninS (Nat.ne_of_lt (Nat.lt_of_lt_of_le Fq2_0.lt (Nat.le_of_eq g3.symm))) nin0)).ext E10).keep Kp11 (ninS (Nat.ne_of_lt (Nat.lt_of_lt_of_le (((Fq2_0.ext E3).ext E4).keep Kp5).lt (Nat.le_of_eq g10.symm))) nin0)).keep Kp13 (ninS (Nat.ne_of_lt (Nat.lt_of_lt_of_le (((Fq2_0.ext E3).ext E4).keep Kp5).lt (Nat.le_of_eq g10.symm))) nin0)).keep Kp17 (ninS (Nat.ne_of_lt (Nat.lt_of_lt_of_le (((Fq2_0.ext E3).ext E4).keep Kp5).lt (Nat.le_of_eq g10.symm))) (ninS (Nat.ne_of_lt (Nat.lt_of_lt_of_le (((((Fq2_0.ext E3).ext E4).keep Kp5).ext E10).keep Kp11).lt gb13_0)) nin0))).keep Kp19 (ninS (Nat.ne_of_lt (Nat.lt_of_lt_of_le (((Fq2_0.ext E3).ext E4).keep Kp5).lt (Nat.le_of_eq g10.symm))) (ninS (Nat.ne_of_lt (Nat.lt_of_lt_of_le (((((Fq2_0.ext E3).ext E4).keep Kp5).ext E10).keep Kp11).lt gb13_0)) nin0))).keep Kp21 (ninS (Nat.ne_of_lt (Nat.lt_of_lt_of_le (((Fq2_0.ext E3).ext E4).keep Kp5).lt (Nat.le_of_eq g10.symm))) (ninS (Nat.ne_of_lt (Nat.lt_of_lt_of_le (((((Fq2_0.ext E3).ext E4).keep Kp5).ext E10).keep Kp11).lt gb13_0)) nin0)))
  have f25 : Exa Z T21.heap b1 "com/example/sortition/sortition/Slots" := (((((((((Fq2_0.ext E3).ext E4).keep Kp5).ext E10).keep Kp11).keep Kp13).keep Kp17).keep Kp19).keep Kp21)
  obtain ⟨cq23, kq23, q23a, q23b, q23c⟩ := isOf hZ5 rfl f25
  obtain ⟨_, _, ⟨T23, L23, k23, n23⟩, -, X23, ⟨Lc23, hQ23, l23, y23, z23⟩, st23⟩ := X21.virtualBack hx (y := (⟨"com/example/sortition/sortition/Slots", "allows", "(Ljava/util/List;)Z"⟩ : MethodName)) (z := (⟨"com/example/sortition/sortition/Slots", "allows", "(Ljava/util/List;)Z"⟩ : MethodName)) hown5 (mvT hZ5 (ow hw 104 rfl)) (mvT hZ5 (ow hw 105 rfl)) (notFace_of_selects (args := #[]) (mvT hZ5 (ow hw 107 rfl))) (mvT hZ5 (ow hw 107 rfl)) (mvT hZ5 (ow hw 106 rfl)) (by decide) (backOf (W := 0) (rmAW_t l Z a0 hw [] b1 b10 (4 : Int32) kk T21.heap n0 (Nat.le_trans (Nat.le_trans (Nat.le_trans (Nat.le_trans (Nat.le_trans (Nat.le_trans (Nat.le_trans (Nat.le_trans (Nat.le_trans (Nat.le_trans (Nat.le_trans Z0 E1.1) Kp2.1) E3.1) E4.1) Kp5.1) E10.1) Kp11.1) Kp13.1) Kp17.1) Kp19.1) Kp21.1) Fq21_0 Fq21_3 f24 hrd) hZ5 (ow hw 108 rfl) (ow hw 2 rfl) (by decide) (by decide)) q23a q23c (g := (mkF m 164 #[.val (.int ja), .val (.int jb), .val (.int kk), .val (.int (4 : Int32)), .val (.ref b1), .val (.ref b3), .val (.ref b10), .val (.int (0 : Int32))] [(.ref b10), (.ref b1)])) rfl (by rw [hml]; rfl) (Steps.refl _) (argsL := [(.ref b10)]) (rest := []) (lenOf pd_10 rfl) rfl (by show 2 * 0 + _ ≤ _; exact Nat.le_of_eq rfl) (hb hby at_164) (fun _ _ => ⟨rfl, rfl, (by decide : 8 + 0 ≤ _), (by decide : 37 + 0 ≤ _)⟩)
  dsimp only [Pt.U, Pt.locs, Pt.cells, Pt.slots] at X23 l23 y23 z23 st23 hQ23
  subst l23 y23 z23
  obtain ⟨rfl, Nq23, e23⟩ := hQ23
  have N23 := Fr.app N21 Nq23
  obtain ⟨fs, hr, hrun, hended, hRW⟩ := X23.leaveW (s := s) hS5 (by rw [e23]; exact (Nat.le_trans (Nat.le_trans (Nat.le_trans (Nat.le_trans (Nat.le_trans (Nat.le_trans (Nat.le_refl _) E10.1) Kp11.1) Kp13.1) Kp17.1) Kp19.1) Kp21.1)) (v := some (.int (1 : Int32))) (fun h => by rw [Bd.returns] at h; cases h)
  refine ⟨_, _, pre0 _ ?_, hrun, hended, _, _, rfl, ?_, hRW.1, hRW.2.1, hRW.2.2.1, hRW.2.2.2.mono (by decide) (by decide)⟩
  · show Steps p.tables e below (s₁.setTop (mkF m 0 #[.val (.int ja), .val (.int jb), .unset, .unset, .unset, .unset, .unset, .unset] [])) _
    refine stp _ ?_
    show Steps p.tables e below (s₁.setTop (mkF m 20 #[.val (.int ja), .val (.int jb), .val (.int kk), .unset, .unset, .unset, .unset, .unset] [])) _
    refine XS.iloadN X0.here hx rfl (hb hby at_20) rfl ?_
    show Steps p.tables e below (s₁.setTop (mkF m 21 #[.val (.int ja), .val (.int jb), .val (.int kk), .unset, .unset, .unset, .unset, .unset] [(.int jb)])) _
    refine XS.bipush X0.here hx rfl (hb hby at_21) ?_
    show Steps p.tables e below (s₁.setTop (mkF m 23 #[.val (.int ja), .val (.int jb), .val (.int kk), .unset, .unset, .unset, .unset, .unset] [(.int (7 : Int32)), (.int jb)])) _
    refine XS.iand X0.here hx rfl (hb hby at_23) rfl ?_
    show Steps p.tables e below (s₁.setTop (mkF m 24 #[.val (.int ja), .val (.int jb), .val (.int kk), .unset, .unset, .unset, .unset, .unset] [(.int (jb &&& (7 : Int32)))])) _
    rw [hn]
    show Steps p.tables e below (s₁.setTop (mkF m 24 #[.val (.int ja), .val (.int jb), .val (.int kk), .unset, .unset, .unset, .unset, .unset] [(.int (4 : Int32))])) _
    refine XS.istoreN X0.here hx rfl (hb hby at_24) rfl (l' := #[.val (.int ja), .val (.int jb), .val (.int kk), .val (.int (4 : Int32)), .unset, .unset, .unset, .unset]) rfl ?_
    show Steps p.tables e below (s₁.setTop (mkF m 25 #[.val (.int ja), .val (.int jb), .val (.int kk), .val (.int (4 : Int32)), .unset, .unset, .unset, .unset] [])) _
    refine st1 _ ?_
    show Steps p.tables e below (T1.setTop (mkF m 28 #[.val (.int ja), .val (.int jb), .val (.int kk), .val (.int (4 : Int32)), .unset, .unset, .unset, .unset] [(.ref b1)])) _
    refine XS.dup X1.here hx rfl (hb hby at_28) rfl rfl ?_
    show Steps p.tables e below (T1.setTop (mkF m 29 #[.val (.int ja), .val (.int jb), .val (.int kk), .val (.int (4 : Int32)), .unset, .unset, .unset, .unset] [(.ref b1), (.ref b1)])) _
    refine XS.iloadN X1.here hx rfl (hb hby at_29) rfl ?_
    show Steps p.tables e below (T1.setTop (mkF m 30 #[.val (.int ja), .val (.int jb), .val (.int kk), .val (.int (4 : Int32)), .unset, .unset, .unset, .unset] [(.int kk), (.ref b1), (.ref b1)])) _
    refine st2.trans ?_
    show Steps p.tables e below (T2.setTop (mkF m 33 #[.val (.int ja), .val (.int jb), .val (.int kk), .val (.int (4 : Int32)), .unset, .unset, .unset, .unset] [(.ref b1)])) _
    refine XS.astore X2.here hx rfl (hb hby at_33) rfl rfl (l' := #[.val (.int ja), .val (.int jb), .val (.int kk), .val (.int (4 : Int32)), .val (.ref b1), .unset, .unset, .unset]) rfl ?_
    show Steps p.tables e below (T2.setTop (mkF m 35 #[.val (.int ja), .val (.int jb), .val (.int kk), .val (.int (4 : Int32)), .val (.ref b1), .unset, .unset, .unset] [])) _
    refine st3 _ ?_
    show Steps p.tables e below (T3.setTop (mkF m 38 #[.val (.int ja), .val (.int jb), .val (.int kk), .val (.int (4 : Int32)), .val (.ref b1), .unset, .unset, .unset] [(.ref b3)])) _
    refine XS.dup X3.here hx rfl (hb hby at_38) rfl rfl ?_
    show Steps p.tables e below (T3.setTop (mkF m 39 #[.val (.int ja), .val (.int jb), .val (.int kk), .val (.int (4 : Int32)), .val (.ref b1), .unset, .unset, .unset] [(.ref b3), (.ref b3)])) _
    refine XS.iconst X3.here hx rfl (hb hby at_39) ?_
    show Steps p.tables e below (T3.setTop (mkF m 40 #[.val (.int ja), .val (.int jb), .val (.int kk), .val (.int (4 : Int32)), .val (.ref b1), .unset, .unset, .unset] [(.int (0 : Int32)), (.ref b3), (.ref b3)])) _
    refine st4 _ ?_
    show Steps p.tables e below (T4.setTop (mkF m 42 #[.val (.int ja), .val (.int jb), .val (.int kk), .val (.int (4 : Int32)), .val (.ref b1), .unset, .unset, .unset] [(.ref a4), (.int (0 : Int32)), (.ref b3), (.ref b3)])) _
    refine XS.dconst1 X4.here hx rfl (hb hby at_42) (v := 4607182418800017408) rfl ?_
    show Steps p.tables e below (T4.setTop (mkF m 43 #[.val (.int ja), .val (.int jb), .val (.int kk), .val (.int (4 : Int32)), .val (.ref b1), .unset, .unset, .unset] [(.double 4607182418800017408), (.ref a4), (.int (0 : Int32)), (.ref b3), (.ref b3)])) _
    refine st5.trans ?_
    show Steps p.tables e below (T5.setTop (mkF m 46 #[.val (.int ja), .val (.int jb), .val (.int kk), .val (.int (4 : Int32)), .val (.ref b1), .unset, .unset, .unset] [(.ref b3)])) _
    refine XS.astore X5.here hx rfl (hb hby at_46) rfl rfl (l' := #[.val (.int ja), .val (.int jb), .val (.int kk), .val (.int (4 : Int32)), .val (.ref b1), .val (.ref b3), .unset, .unset]) rfl ?_
    show Steps p.tables e below (T5.setTop (mkF m 48 #[.val (.int ja), .val (.int jb), .val (.int kk), .val (.int (4 : Int32)), .val (.ref b1), .val (.ref b3), .unset, .unset] [])) _
    refine st10 _ ?_
    show Steps p.tables e below (T10.setTop (mkF m 51 #[.val (.int ja), .val (.int jb), .val (.int kk), .val (.int (4 : Int32)), .val (.ref b1), .val (.ref b3), .unset, .unset] [(.ref b10)])) _
    refine XS.dup X10.here hx rfl (hb hby at_51) rfl rfl ?_
    show Steps p.tables e below (T10.setTop (mkF m 52 #[.val (.int ja), .val (.int jb), .val (.int kk), .val (.int (4 : Int32)), .val (.ref b1), .val (.ref b3), .unset, .unset] [(.ref b10), (.ref b10)])) _
    refine st11.trans ?_
    show Steps p.tables e below (T11.setTop (mkF m 55 #[.val (.int ja), .val (.int jb), .val (.int kk), .val (.int (4 : Int32)), .val (.ref b1), .val (.ref b3), .unset, .unset] [(.ref b10)])) _
    refine XS.astore X11.here hx rfl (hb hby at_55) rfl rfl (l' := #[.val (.int ja), .val (.int jb), .val (.int kk), .val (.int (4 : Int32)), .val (.ref b1), .val (.ref b3), .val (.ref b10), .unset]) rfl ?_
    show Steps p.tables e below (T11.setTop (mkF m 57 #[.val (.int ja), .val (.int jb), .val (.int kk), .val (.int (4 : Int32)), .val (.ref b1), .val (.ref b3), .val (.ref b10), .unset] [])) _
    refine XS.iloadN X11.here hx rfl (hb hby at_57) rfl ?_
    show Steps p.tables e below (T11.setTop (mkF m 58 #[.val (.int ja), .val (.int jb), .val (.int kk), .val (.int (4 : Int32)), .val (.ref b1), .val (.ref b3), .val (.ref b10), .unset] [(.int (4 : Int32))])) _
    refine XS.ifNo X11.here hx rfl (hb hby at_58) rfl ((if0 _ _).trans (tlt (by decide : (0 : Int32) < (4 : Int32))).2.2.2) ?_
    show Steps p.tables e below (T11.setTop (mkF m 61 #[.val (.int ja), .val (.int jb), .val (.int kk), .val (.int (4 : Int32)), .val (.ref b1), .val (.ref b3), .val (.ref b10), .unset] [])) _
    refine XS.aload X11.here hx rfl (hb hby at_61) rfl rfl ?_
    show Steps p.tables e below (T11.setTop (mkF m 63 #[.val (.int ja), .val (.int jb), .val (.int kk), .val (.int (4 : Int32)), .val (.ref b1), .val (.ref b3), .val (.ref b10), .unset] [(.ref b10)])) _
    refine XS.aload X11.here hx rfl (hb hby at_63) rfl rfl ?_
    show Steps p.tables e below (T11.setTop (mkF m 65 #[.val (.int ja), .val (.int jb), .val (.int kk), .val (.int (4 : Int32)), .val (.ref b1), .val (.ref b3), .val (.ref b10), .unset] [(.ref b3), (.ref b10)])) _
    refine st13.trans ?_
    show Steps p.tables e below (T13.setTop (mkF m 68 #[.val (.int ja), .val (.int jb), .val (.int kk), .val (.int (4 : Int32)), .val (.ref b1), .val (.ref b3), .val (.ref b10), .unset] [(.int (1 : Int32))])) _
    refine XS.pop X13.here hx rfl (hb hby at_68) rfl rfl ?_
    show Steps p.tables e below (T13.setTop (mkF m 69 #[.val (.int ja), .val (.int jb), .val (.int kk), .val (.int (4 : Int32)), .val (.ref b1), .val (.ref b3), .val (.ref b10), .unset] [])) _
    refine XS.iloadN X13.here hx rfl (hb hby at_69) rfl ?_
    show Steps p.tables e below (T13.setTop (mkF m 70 #[.val (.int ja), .val (.int jb), .val (.int kk), .val (.int (4 : Int32)), .val (.ref b1), .val (.ref b3), .val (.ref b10), .unset] [(.int (4 : Int32))])) _
    refine XS.iconst X13.here hx rfl (hb hby at_70) ?_
    show Steps p.tables e below (T13.setTop (mkF m 71 #[.val (.int ja), .val (.int jb), .val (.int kk), .val (.int (4 : Int32)), .val (.ref b1), .val (.ref b3), .val (.ref b10), .unset] [(.int (1 : Int32)), (.int (4 : Int32))])) _
    refine XS.icmpNo X13.here hx rfl (hb hby at_71) rfl (tlt (by decide : (1 : Int32) < (4 : Int32))).2.2.2 ?_
    show Steps p.tables e below (T13.setTop (mkF m 74 #[.val (.int ja), .val (.int jb), .val (.int kk), .val (.int (4 : Int32)), .val (.ref b1), .val (.ref b3), .val (.ref b10), .unset] [])) _
    refine XS.aload X13.here hx rfl (hb hby at_74) rfl rfl ?_
    show Steps p.tables e below (T13.setTop (mkF m 76 #[.val (.int ja), .val (.int jb), .val (.int kk), .val (.int (4 : Int32)), .val (.ref b1), .val (.ref b3), .val (.ref b10), .unset] [(.ref b10)])) _
    refine XS.aload X13.here hx rfl (hb hby at_76) rfl rfl ?_
    show Steps p.tables e below (T13.setTop (mkF m 78 #[.val (.int ja), .val (.int jb), .val (.int kk), .val (.int (4 : Int32)), .val (.ref b1), .val (.ref b3), .val (.ref b10), .unset] [(.ref b3), (.ref b10)])) _
    refine st17.trans ?_
    show Steps p.tables e below (T17.setTop (mkF m 81 #[.val (.int ja), .val (.int jb), .val (.int kk), .val (.int (4 : Int32)), .val (.ref b1), .val (.ref b3), .val (.ref b10), .unset] [(.int (1 : Int32))])) _
    refine XS.pop X17.here hx rfl (hb hby at_81) rfl rfl ?_
    show Steps p.tables e below (T17.setTop (mkF m 82 #[.val (.int ja), .val (.int jb), .val (.int kk), .val (.int (4 : Int32)), .val (.ref b1), .val (.ref b3), .val (.ref b10), .unset] [])) _
    refine XS.iloadN X17.here hx rfl (hb hby at_82) rfl ?_
    show Steps p.tables e below (T17.setTop (mkF m 83 #[.val (.int ja), .val (.int jb), .val (.int kk), .val (.int (4 : Int32)), .val (.ref b1), .val (.ref b3), .val (.ref b10), .unset] [(.int (4 : Int32))])) _
    refine XS.iconst X17.here hx rfl (hb hby at_83) ?_
    show Steps p.tables e below (T17.setTop (mkF m 84 #[.val (.int ja), .val (.int jb), .val (.int kk), .val (.int (4 : Int32)), .val (.ref b1), .val (.ref b3), .val (.ref b10), .unset] [(.int (2 : Int32)), (.int (4 : Int32))])) _
    refine XS.icmpNo X17.here hx rfl (hb hby at_84) rfl (tlt (by decide : (2 : Int32) < (4 : Int32))).2.2.2 ?_
    show Steps p.tables e below (T17.setTop (mkF m 87 #[.val (.int ja), .val (.int jb), .val (.int kk), .val (.int (4 : Int32)), .val (.ref b1), .val (.ref b3), .val (.ref b10), .unset] [])) _
    refine XS.aload X17.here hx rfl (hb hby at_87) rfl rfl ?_
    show Steps p.tables e below (T17.setTop (mkF m 89 #[.val (.int ja), .val (.int jb), .val (.int kk), .val (.int (4 : Int32)), .val (.ref b1), .val (.ref b3), .val (.ref b10), .unset] [(.ref b10)])) _
    refine XS.aload X17.here hx rfl (hb hby at_89) rfl rfl ?_
    show Steps p.tables e below (T17.setTop (mkF m 91 #[.val (.int ja), .val (.int jb), .val (.int kk), .val (.int (4 : Int32)), .val (.ref b1), .val (.ref b3), .val (.ref b10), .unset] [(.ref b3), (.ref b10)])) _
    refine st19.trans ?_
    show Steps p.tables e below (T19.setTop (mkF m 94 #[.val (.int ja), .val (.int jb), .val (.int kk), .val (.int (4 : Int32)), .val (.ref b1), .val (.ref b3), .val (.ref b10), .unset] [(.int (1 : Int32))])) _
    refine XS.pop X19.here hx rfl (hb hby at_94) rfl rfl ?_
    show Steps p.tables e below (T19.setTop (mkF m 95 #[.val (.int ja), .val (.int jb), .val (.int kk), .val (.int (4 : Int32)), .val (.ref b1), .val (.ref b3), .val (.ref b10), .unset] [])) _
    refine XS.iloadN X19.here hx rfl (hb hby at_95) rfl ?_
    show Steps p.tables e below (T19.setTop (mkF m 96 #[.val (.int ja), .val (.int jb), .val (.int kk), .val (.int (4 : Int32)), .val (.ref b1), .val (.ref b3), .val (.ref b10), .unset] [(.int (4 : Int32))])) _
    refine XS.iconst X19.here hx rfl (hb hby at_96) ?_
    show Steps p.tables e below (T19.setTop (mkF m 97 #[.val (.int ja), .val (.int jb), .val (.int kk), .val (.int (4 : Int32)), .val (.ref b1), .val (.ref b3), .val (.ref b10), .unset] [(.int (3 : Int32)), (.int (4 : Int32))])) _
    refine XS.icmpNo X19.here hx rfl (hb hby at_97) rfl (tlt (by decide : (3 : Int32) < (4 : Int32))).2.2.2 ?_
    show Steps p.tables e below (T19.setTop (mkF m 100 #[.val (.int ja), .val (.int jb), .val (.int kk), .val (.int (4 : Int32)), .val (.ref b1), .val (.ref b3), .val (.ref b10), .unset] [])) _
    refine XS.aload X19.here hx rfl (hb hby at_100) rfl rfl ?_
    show Steps p.tables e below (T19.setTop (mkF m 102 #[.val (.int ja), .val (.int jb), .val (.int kk), .val (.int (4 : Int32)), .val (.ref b1), .val (.ref b3), .val (.ref b10), .unset] [(.ref b10)])) _
    refine XS.aload X19.here hx rfl (hb hby at_102) rfl rfl ?_
    show Steps p.tables e below (T19.setTop (mkF m 104 #[.val (.int ja), .val (.int jb), .val (.int kk), .val (.int (4 : Int32)), .val (.ref b1), .val (.ref b3), .val (.ref b10), .unset] [(.ref b3), (.ref b10)])) _
    refine st21.trans ?_
    show Steps p.tables e below (T21.setTop (mkF m 107 #[.val (.int ja), .val (.int jb), .val (.int kk), .val (.int (4 : Int32)), .val (.ref b1), .val (.ref b3), .val (.ref b10), .unset] [(.int (1 : Int32))])) _
    refine XS.pop X21.here hx rfl (hb hby at_107) rfl rfl ?_
    show Steps p.tables e below (T21.setTop (mkF m 108 #[.val (.int ja), .val (.int jb), .val (.int kk), .val (.int (4 : Int32)), .val (.ref b1), .val (.ref b3), .val (.ref b10), .unset] [])) _
    refine XS.iloadN X21.here hx rfl (hb hby at_108) rfl ?_
    show Steps p.tables e below (T21.setTop (mkF m 109 #[.val (.int ja), .val (.int jb), .val (.int kk), .val (.int (4 : Int32)), .val (.ref b1), .val (.ref b3), .val (.ref b10), .unset] [(.int (4 : Int32))])) _
    refine XS.iconst X21.here hx rfl (hb hby at_109) ?_
    show Steps p.tables e below (T21.setTop (mkF m 110 #[.val (.int ja), .val (.int jb), .val (.int kk), .val (.int (4 : Int32)), .val (.ref b1), .val (.ref b3), .val (.ref b10), .unset] [(.int (4 : Int32)), (.int (4 : Int32))])) _
    refine XS.icmpYes X21.here hx rfl (pc0 := 110) (pc' := 121) rfl (hb hby at_110) rfl (flt (by decide : ¬ ((4 : Int32) < (4 : Int32)))).2.2.2 (by decide) (by decide) ?_
    show Steps p.tables e below (T21.setTop (mkF m 121 #[.val (.int ja), .val (.int jb), .val (.int kk), .val (.int (4 : Int32)), .val (.ref b1), .val (.ref b3), .val (.ref b10), .unset] [])) _
    refine XS.iloadN X21.here hx rfl (hb hby at_121) rfl ?_
    show Steps p.tables e below (T21.setTop (mkF m 122 #[.val (.int ja), .val (.int jb), .val (.int kk), .val (.int (4 : Int32)), .val (.ref b1), .val (.ref b3), .val (.ref b10), .unset] [(.int (4 : Int32))])) _
    refine XS.iconst X21.here hx rfl (hb hby at_122) ?_
    show Steps p.tables e below (T21.setTop (mkF m 123 #[.val (.int ja), .val (.int jb), .val (.int kk), .val (.int (4 : Int32)), .val (.ref b1), .val (.ref b3), .val (.ref b10), .unset] [(.int (5 : Int32)), (.int (4 : Int32))])) _
    refine XS.icmpYes X21.here hx rfl (pc0 := 123) (pc' := 134) rfl (hb hby at_123) rfl (flt (by decide : ¬ ((5 : Int32) < (4 : Int32)))).2.2.2 (by decide) (by decide) ?_
    show Steps p.tables e below (T21.setTop (mkF m 134 #[.val (.int ja), .val (.int jb), .val (.int kk), .val (.int (4 : Int32)), .val (.ref b1), .val (.ref b3), .val (.ref b10), .unset] [])) _
    refine XS.iloadN X21.here hx rfl (hb hby at_134) rfl ?_
    show Steps p.tables e below (T21.setTop (mkF m 135 #[.val (.int ja), .val (.int jb), .val (.int kk), .val (.int (4 : Int32)), .val (.ref b1), .val (.ref b3), .val (.ref b10), .unset] [(.int (4 : Int32))])) _
    refine XS.bipush X21.here hx rfl (hb hby at_135) ?_
    show Steps p.tables e below (T21.setTop (mkF m 137 #[.val (.int ja), .val (.int jb), .val (.int kk), .val (.int (4 : Int32)), .val (.ref b1), .val (.ref b3), .val (.ref b10), .unset] [(.int (6 : Int32)), (.int (4 : Int32))])) _
    refine XS.icmpYes X21.here hx rfl (pc0 := 137) (pc' := 148) rfl (hb hby at_137) rfl (flt (by decide : ¬ ((6 : Int32) < (4 : Int32)))).2.2.2 (by decide) (by decide) ?_
    show Steps p.tables e below (T21.setTop (mkF m 148 #[.val (.int ja), .val (.int jb), .val (.int kk), .val (.int (4 : Int32)), .val (.ref b1), .val (.ref b3), .val (.ref b10), .unset] [])) _
    refine XS.iloadN X21.here hx rfl (hb hby at_148) rfl ?_
    show Steps p.tables e below (T21.setTop (mkF m 149 #[.val (.int ja), .val (.int jb), .val (.int kk), .val (.int (4 : Int32)), .val (.ref b1), .val (.ref b3), .val (.ref b10), .unset] [(.int (4 : Int32))])) _
    refine XS.iloadN X21.here hx rfl (hb hby at_149) rfl ?_
    show Steps p.tables e below (T21.setTop (mkF m 150 #[.val (.int ja), .val (.int jb), .val (.int kk), .val (.int (4 : Int32)), .val (.ref b1), .val (.ref b3), .val (.ref b10), .unset] [(.int kk), (.int (4 : Int32))])) _
    refine XS.icmpYes X21.here hx rfl (pc0 := 150) (pc' := 157) rfl (hb hby at_150) rfl (tlt hrd).2.2.1 (by decide) (by decide) ?_
    show Steps p.tables e below (T21.setTop (mkF m 157 #[.val (.int ja), .val (.int jb), .val (.int kk), .val (.int (4 : Int32)), .val (.ref b1), .val (.ref b3), .val (.ref b10), .unset] [])) _
    refine XS.iconst X21.here hx rfl (hb hby at_157) ?_
    show Steps p.tables e below (T21.setTop (mkF m 158 #[.val (.int ja), .val (.int jb), .val (.int kk), .val (.int (4 : Int32)), .val (.ref b1), .val (.ref b3), .val (.ref b10), .unset] [(.int (0 : Int32))])) _
    refine XS.istore X21.here hx rfl (hb hby at_158) rfl (l' := #[.val (.int ja), .val (.int jb), .val (.int kk), .val (.int (4 : Int32)), .val (.ref b1), .val (.ref b3), .val (.ref b10), .val (.int (0 : Int32))]) rfl ?_
    show Steps p.tables e below (T21.setTop (mkF m 160 #[.val (.int ja), .val (.int jb), .val (.int kk), .val (.int (4 : Int32)), .val (.ref b1), .val (.ref b3), .val (.ref b10), .val (.int (0 : Int32))] [])) _
    refine XS.aload X21.here hx rfl (hb hby at_160) rfl rfl ?_
    show Steps p.tables e below (T21.setTop (mkF m 162 #[.val (.int ja), .val (.int jb), .val (.int kk), .val (.int (4 : Int32)), .val (.ref b1), .val (.ref b3), .val (.ref b10), .val (.int (0 : Int32))] [(.ref b1)])) _
    refine XS.aload X21.here hx rfl (hb hby at_162) rfl rfl ?_
    show Steps p.tables e below (T21.setTop (mkF m 164 #[.val (.int ja), .val (.int jb), .val (.int kk), .val (.int (4 : Int32)), .val (.ref b1), .val (.ref b3), .val (.ref b10), .val (.int (0 : Int32))] [(.ref b10), (.ref b1)])) _
    refine st23.trans ?_
    show Steps p.tables e below (T23.setTop (mkF m 167 #[.val (.int ja), .val (.int jb), .val (.int kk), .val (.int (4 : Int32)), .val (.ref b1), .val (.ref b3), .val (.ref b10), .val (.int (0 : Int32))] [(.int (0 : Int32))])) _
    refine XS.iload X23.here hx rfl (hb hby at_167) rfl ?_
    show Steps p.tables e below (T23.setTop (mkF m 169 #[.val (.int ja), .val (.int jb), .val (.int kk), .val (.int (4 : Int32)), .val (.ref b1), .val (.ref b3), .val (.ref b10), .val (.int (0 : Int32))] [(.int (0 : Int32)), (.int (0 : Int32))])) _
    refine XS.icmpNo X23.here hx rfl (hb hby at_169) rfl (teq (rfl : (0 : Int32) = (0 : Int32))).2 ?_
    show Steps p.tables e below (T23.setTop (mkF m 172 #[.val (.int ja), .val (.int jb), .val (.int kk), .val (.int (4 : Int32)), .val (.ref b1), .val (.ref b3), .val (.ref b10), .val (.int (0 : Int32))] [])) _
    refine XS.iconst X23.here hx rfl (hb hby at_172) ?_
    show Steps p.tables e below (T23.setTop (mkF m 173 #[.val (.int ja), .val (.int jb), .val (.int kk), .val (.int (4 : Int32)), .val (.ref b1), .val (.ref b3), .val (.ref b10), .val (.int (0 : Int32))] [(.int (1 : Int32))])) _
    refine XS.goto X23.here hx rfl (pc0 := 173) (pc' := 177) rfl (hb hby at_173) (by decide) (by decide) ?_
    show Steps p.tables e below (T23.setTop (mkF m 177 #[.val (.int ja), .val (.int jb), .val (.int kk), .val (.int (4 : Int32)), .val (.ref b1), .val (.ref b3), .val (.ref b10), .val (.int (0 : Int32))] [(.int (1 : Int32))])) _
    exact retN X23 hx (t := .boolean) Bd.returns (by simp) (hb hby at_177) hr
  · show Q_rm0_4t Z ja jb kk de kd h0 n0 _ T23.heap _
    rw [e23]
    exact ⟨rfl, N23⟩
def Q_rm0_4f (Z : State) (ja : Int32) (jb : Int32) (kk : Int32) (de : Addr) (kd : ClassId) (h0 : Heap) (n0 : Nat) (v : Option Value) (h : Heap) (L : List Loc) : Prop := v = some (.int (1 : Int32)) ∧ Fr n0 L
theorem ef_rm0_4f (m : MethodId) (ja : Int32) (jb : Int32) : entryFrame m #[(.int ja), (.int jb)] maxLocals = mkF m 0 #[.val (.int ja), .val (.int jb), .unset, .unset, .unset, .unset, .unset, .unset] [] := by first | (simp [entryFrame, mkF, argsToLocals, Value.category, maxLocals]; done) | rfl
set_option maxRecDepth 65536 in
set_option maxHeartbeats 40000000 in
theorem rm0_4f (l : Launch) (Z : State) (a0 : Array Value) (hw : ∀ d ∈ tables_1, d.before a0 Z = true) (ws : List Jvm.Cond) (ja : Int32) (jb : Int32) (kk : Int32) (de : Addr) (kd : ClassId) (h0 : Heap) (n0 : Nat) (Z0 : n0 ≤ h0.size) (hwS : ∀ a ∈ Bundle.stringAtoms, a.before a0 Z = true) (hn0 : n0 = h0.size) (hcn : Jvm.Lit.constHeld Z "com/example/sortition/sortition/SlotsAllowsPinLaw" 15) (hcw : Jvm.Lit.compactW.before a0 Z = true) (S_DE : Sta Z h0 "java/util/ArrayList" "DEFAULTCAPACITY_EMPTY_ELEMENTDATA" "[Ljava/lang/Object;" (.ref de)) (V_de : Arv Z h0 de kd (.object "java/lang/Object") (0 : Int32) [] .null) (hkk : (own_k ja jb) = kk) (gkk : ¬ (kk < (0 : Int32))) (hn : (jb &&& (7 : Int32)) = (4 : Int32)) (hrd : ¬ (kk < (4 : Int32))) :
    MetFree l x (head1 (Jvm.Cond.code x code maxLocals ret :: ws) room_1) (fun a U => a = #[(.int ja), (.int jb)] ∧ Z.Warmed39 U.vm ∧ U.heap = h0 ∧ U.vm.interned = Z.vm.interned ∧ (∀ (b : Addr) (cl : Cell), Z.heap[b]? = some cl → U.heap[b]? = some cl)) (fun _ _ _ _ _ => True) (fun _ U o U' => ∃ v L, o = .returned v ∧ Q_rm0_4f Z ja jb kk de kd h0 n0 v U'.heap L ∧ ReturnedEndW U o U' L room_1.cells room_1.slots) := by
  refine MetFree.of_bodySF (plainFor_of_name pn_8) hisR ?_
  intro p e s m args below meth c s₁ Bd hml0 hP hK
  obtain ⟨rfl, hZ, hh, hI0, hK0⟩ := hP
  have hx := Bd.exec
  have hby := Bd.bytes
  have hml : c.maxLocals = 8 := hml0
  have hown : s.vm.findClass "com/example/sortition/sortition/SlotsAllowsPinLaw" = some m.cls := findClass_of_methodNamed Bd.named
  have hnm := (name_of_methodNamed Bd.named Bd.method).1
  have X0 : Stand p l e room_1 s m #[(.int ja), (.int jb)] below meth c s₁ [] 0 0 := Stand.of_body Bd
  have e0 : s₁.heap = h0 := by rw [← hh, Bd.state]; rfl
  have N0 := Fr.nil n0
  have hS0 := (State.WarmedH.refl s).since 0
  have pre0 : ∀ t, Steps p.tables e below (s₁.setTop (mkF m 0 #[.val (.int ja), .val (.int jb), .unset, .unset, .unset, .unset, .unset, .unset] [])) t → Steps p.tables e below (s₁.setTop (entryFrame m #[(.int ja), (.int jb)] maxLocals)) t := fun t k => castTop (ef_rm0_4f m ja jb) k
  have stp := own_pre ja jb X0 hx hZ hw hby hown
  rw [hkk] at stp
  obtain ⟨T1, h1, X1, e1, E1, A1, D1, -, st1⟩ := newO X0 hx hZ hown (ow hw 0 rfl) (ow hw 1 rfl) (ow hw 2 rfl) e0 (g := (mkF m 25 #[.val (.int ja), .val (.int jb), .val (.int kk), .val (.int (4 : Int32)), .unset, .unset, .unset, .unset] [])) rfl (hb hby at_25) (by decide) (by decide)
  obtain ⟨b1, g1⟩ : ∃ z, z = h0.size := ⟨_, rfl⟩
  rw [← g1] at A1 D1 st1
  have F1_3 : Fld Z h1 b1 "com/example/sortition/sortition/Slots" "size" "I" (.int (0 : Int32)) := D1 (Or.inr (ow hw 15 rfl)) (ty := .int) (by decide)
  obtain ⟨_, _, ⟨T2, L2, k2, n2⟩, -, X2, ⟨Lc2, hQ2, l2, y2, z2⟩, st2⟩ := X1.specialBack hx (y := (⟨"com/example/sortition/sortition/Slots", "<init>", "(I)V"⟩ : MethodName)) rfl hown (mvT hZ (ow hw 3 rfl)) (mvT hZ (ow hw 4 rfl)) (mvT hZ (ow hw 5 rfl)) (by decide) (backOf (W := 1) (rmSl l Z a0 hw [] b1 kk (.int (0 : Int32)) h1 n0 (Nat.le_trans Z0 E1.1) gkk F1_3 A1 (Nat.le_trans Z0 (Nat.le_of_eq g1.symm))) hZ (ow hw 5 rfl) (ow hw 2 rfl) (by decide) (by decide)) (g := (mkF m 30 #[.val (.int ja), .val (.int jb), .val (.int kk), .val (.int (4 : Int32)), .unset, .unset, .unset, .unset] [(.int kk), (.ref b1), (.ref b1)])) rfl (by rw [hml]; rfl) (Steps.refl _) (a := b1) (argsL := [(.int kk)]) (rest := [(.ref b1)]) (lenOf pd_8 rfl) rfl (by show 2 * 0 + _ ≤ _; exact Nat.le_of_eq rfl) (hb hby at_30) (fun _ _ => ⟨rfl, e1, (by decide : 1 + 0 ≤ _), (by decide : 1 + 0 ≤ _)⟩)
  dsimp only [Pt.U, Pt.locs, Pt.cells, Pt.slots] at X2 l2 y2 z2 st2 hQ2
  subst l2 y2 z2
  obtain ⟨rfl, Nq2, Kp2, Fq2_0, Fq2_1⟩ := hQ2
  have N2 := Fr.app N0 Nq2
  obtain ⟨T3, h3, X3, e3, E3, A3, D3, -, st3⟩ := newO X2 hx hZ hown (ow hw 16 rfl) (ow hw 17 rfl) (ow hw 18 rfl) rfl (g := (mkF m 35 #[.val (.int ja), .val (.int jb), .val (.int kk), .val (.int (4 : Int32)), .val (.ref b1), .unset, .unset, .unset] [])) rfl (hb hby at_35) (by decide) (by decide)
  obtain ⟨b3, g3⟩ : ∃ z, z = T2.heap.size := ⟨_, rfl⟩
  rw [← g3] at A3 D3 st3
  have F3_5 : Fld Z h3 b3 "com/example/sortition/sortition/Element" "index" "I" (.int (0 : Int32)) := D3 (Or.inr (ow hw 44 rfl)) (ty := .int) (by decide)
  have F3_6 : Fld Z h3 b3 "com/example/sortition/sortition/Element" "id" "Ljava/lang/String;" .null := D3 (Or.inr (ow hw 46 rfl)) (ty := (.object "java/lang/String")) (by decide)
  have F3_7 : Fld Z h3 b3 "com/example/sortition/sortition/Element" "value" "D" (.double 0) := D3 (Or.inr (ow hw 48 rfl)) (ty := .double) (by decide)
  obtain ⟨a4, T4, h4, k4, b4, kc4, X4, e4, E4, hS4, hk4, hZ4, hown4, A4, -, Fv4, V4, -, -, -, st4⟩ := ldcSV (s := s) (vm0 := s.vm) X3 hx hZ hown (ow hw 19 rfl) hwS e3 hS0 (Nat.le_trans (Nat.le_trans (Nat.le_trans (Nat.zero_le _) E1.1) Kp2.1) E3.1) (by rw [hh, ← hn0]; exact N2) hK0 (⟨#[], by simpa using hI0, fun q hq => by simp at hq⟩ : IB Z s.vm []) (by simp) hcn hcw (vs := [(.int (120 : Int32))]) (z := (1 : Int32)) ⟨by decide, by decide⟩ (by decide) rfl (g := (mkF m 40 #[.val (.int ja), .val (.int jb), .val (.int kk), .val (.int (4 : Int32)), .val (.ref b1), .unset, .unset, .unset] [(.int (0 : Int32)), (.ref b3), (.ref b3)])) rfl (hb hby at_40) (n := 4) (by decide) (by decide) (by decide) (by decide)
  have f6 : Fld Z h4 b3 "com/example/sortition/sortition/Element" "index" "I" (.int (0 : Int32)) := (F3_5.ext E4)
  have f7 : Exa Z h4 b3 "com/example/sortition/sortition/Element" := (A3.ext E4)
  have f8 : Fld Z h4 b3 "com/example/sortition/sortition/Element" "id" "Ljava/lang/String;" .null := (F3_6.ext E4)
  have f9 : Fld Z h4 b3 "com/example/sortition/sortition/Element" "value" "D" (.double 0) := (F3_7.ext E4)
  obtain ⟨_, _, ⟨T5, L5, k5, n5⟩, -, X5, hSq5, hgq5, ⟨Lc5, hQ5, l5, y5, z5⟩, st5⟩ := X4.specialBackS hx (y := (⟨"com/example/sortition/sortition/Element", "<init>", "(ILjava/lang/String;D)V"⟩ : MethodName)) rfl hown4 (mvT hZ4 (ow hw 27 rfl)) (mvT hZ4 (ow hw 28 rfl)) (mvT hZ4 (ow hw 29 rfl)) (by decide) (backOfS (W := 1) (rmEI l Z a0 hw [] b3 (0 : Int32) a4 4607182418800017408 b4 kc4 [(.int (120 : Int32))] (.int (0 : Int32)) .null (.double 0) h4 n0 (Nat.le_trans (Nat.le_trans (Nat.le_trans (Nat.le_trans Z0 E1.1) Kp2.1) E3.1) E4.1) hwS A4 Fv4 V4 (by first | assumption | decide) (by decide +kernel) (by decide +kernel) own_nn1 f6 f7 (Nat.le_trans (Nat.le_trans (Nat.le_trans Z0 E1.1) Kp2.1) (Nat.le_of_eq g3.symm)) f8 f9) hZ4 (ow hw 29 rfl) (ow hw 18 rfl) (by decide) (by decide)) (g := (mkF m 43 #[.val (.int ja), .val (.int jb), .val (.int kk), .val (.int (4 : Int32)), .val (.ref b1), .unset, .unset, .unset] [(.double 4607182418800017408), (.ref a4), (.int (0 : Int32)), (.ref b3), (.ref b3)])) rfl (by rw [hml]; rfl) (Steps.refl _) (a := b3) (argsL := [(.int (0 : Int32)), (.ref a4), (.double 4607182418800017408)]) (rest := [(.ref b3)]) (lenOf pd_9 rfl) rfl (by show 2 * 0 + _ ≤ _; exact Nat.le_of_eq rfl) (hb hby at_43) (fun _ _ => ⟨rfl, e4, (by decide : 4 + 2 ≤ _), (by decide : 12 + 12 ≤ _)⟩)
  dsimp only [Pt.U, Pt.locs, Pt.cells, Pt.slots] at X5 l5 y5 z5 st5 hQ5 hSq5 hgq5
  subst l5 y5 z5
  obtain ⟨X5, hS5, hZ5, hown5⟩ := rebS (s := s) (vm0 := T4.vm) hS4 (by rw [e4]; exact hk4) X5 hSq5 hgq5 hZ4 hown4
  obtain ⟨rfl, Nq5, Kp5, Fq5_0, Fq5_1, Fq5_2⟩ := hQ5
  have N5 := Fr.app N2 Nq5
  obtain ⟨T10, h10, X10, e10, E10, A10, D10, -, st10⟩ := newO X5 hx hZ5 hown5 (ow hw 49 rfl) (ow hw 50 rfl) (ow hw 51 rfl) rfl (g := (mkF m 48 #[.val (.int ja), .val (.int jb), .val (.int kk), .val (.int (4 : Int32)), .val (.ref b1), .val (.ref b3), .unset, .unset] [])) rfl (hb hby at_48) (by decide) (by decide)
  obtain ⟨b10, g10⟩ : ∃ z, z = T5.heap.size := ⟨_, rfl⟩
  rw [← g10] at A10 D10 st10
  have F10_12 : Fld Z h10 b10 "java/util/AbstractList" "modCount" "I" (.int (0 : Int32)) := D10 (Or.inl (ow hw 69 rfl)) (ty := .int) (by decide)
  have F10_13 : Fld Z h10 b10 "java/util/ArrayList" "elementData" "[Ljava/lang/Object;" .null := D10 (Or.inl (ow hw 72 rfl)) (ty := (.array (.object "java/lang/Object"))) (by decide)
  have F10_14 : Fld Z h10 b10 "java/util/ArrayList" "size" "I" (.int (0 : Int32)) := D10 (Or.inl (ow hw 81 rfl)) (ty := .int) (by decide)
  have f12 : Sta Z h10 "java/util/ArrayList" "DEFAULTCAPACITY_EMPTY_ELEMENTDATA" "[Ljava/lang/Object;" (.ref de) := ((Sta_keep (((Sta_keep (S_DE.ext E1) Kp2 (nsS A1.nostat ns0)).ext E3).ext E4) Kp5 (nsS f7.nostat ns0)).ext E10)
  obtain ⟨_, _, ⟨T11, L11, k11, n11⟩, -, X11, ⟨Lc11, hQ11, l11, y11, z11⟩, st11⟩ := X10.specialBack hx (y := (⟨"java/util/ArrayList", "<init>", "()V"⟩ : MethodName)) rfl hown5 (mvT hZ5 (ow hw 52 rfl)) (mvT hZ5 (ow hw 53 rfl)) (mvT hZ5 (ow hw 54 rfl)) (by decide) (backOf (W := 1) (rmAL l Z a0 hw [] b10 de (.int (0 : Int32)) .null h10 n0 (Nat.le_trans (Nat.le_trans (Nat.le_trans (Nat.le_trans (Nat.le_trans (Nat.le_trans Z0 E1.1) Kp2.1) E3.1) E4.1) Kp5.1) E10.1) A10 F10_12 F10_13 f12 F10_14 (Nat.le_trans (Nat.le_trans (Nat.le_trans (Nat.le_trans (Nat.le_trans (Nat.le_trans Z0 E1.1) Kp2.1) E3.1) E4.1) Kp5.1) (Nat.le_of_eq g10.symm))) hZ5 (ow hw 54 rfl) (ow hw 51 rfl) (by decide) (by decide)) (g := (mkF m 52 #[.val (.int ja), .val (.int jb), .val (.int kk), .val (.int (4 : Int32)), .val (.ref b1), .val (.ref b3), .unset, .unset] [(.ref b10), (.ref b10)])) rfl (by rw [hml]; rfl) (Steps.refl _) (a := b10) (argsL := []) (rest := [(.ref b10)]) (lenOf pd_0 rfl) rfl (by show 2 * 0 + _ ≤ _; exact Nat.le_of_eq rfl) (hb hby at_52) (fun _ _ => ⟨rfl, e10, (by decide : 7 + 0 ≤ _), (by decide : 27 + 0 ≤ _)⟩)
  dsimp only [Pt.U, Pt.locs, Pt.cells, Pt.slots] at X11 l11 y11 z11 st11 hQ11
  subst l11 y11 z11
  obtain ⟨rfl, Nq11, Kp11, Fq11_0, Fq11_1, Fq11_2, Fq11_3⟩ := hQ11
  have N11 := Fr.app N5 Nq11
  have f14 : Arv Z T11.heap de kd (.object "java/lang/Object") (0 : Int32) [] .null := (((((((V_de.ext E1).keep Kp2 (ninS (Nat.ne_of_lt (Nat.lt_of_lt_of_le V_de.lt (Nat.le_of_eq g1.symm))) nin0)).ext E3).ext E4).keep Kp5 (ninS (Nat.ne_of_lt (Nat.lt_of_lt_of_le ((V_de.ext E1).keep Kp2 (ninS (Nat.ne_of_lt (Nat.lt_of_lt_of_le V_de.lt (Nat.le_of_eq g1.symm))) nin0)).lt (Nat.le_of_eq g3.symm))) nin0)).ext E10).keep Kp11 (ninS (Nat.ne_of_lt (Nat.lt_of_lt_of_le (((((V_de.ext E1).keep Kp2 (ninS (Nat.ne_of_lt (Nat.lt_of_lt_of_le V_de.lt (Nat.le_of_eq g1.symm))) nin0)).ext E3).ext E4).keep Kp5 (ninS (Nat.ne_of_lt (Nat.lt_of_lt_of_le ((V_de.ext E1).keep Kp2 (ninS (Nat.ne_of_lt (Nat.lt_of_lt_of_le V_de.lt (Nat.le_of_eq g1.symm))) nin0)).lt (Nat.le_of_eq g3.symm))) nin0)).lt (Nat.le_of_eq g10.symm))) nin0))
  have f15 : Sta Z T11.heap "java/util/ArrayList" "DEFAULTCAPACITY_EMPTY_ELEMENTDATA" "[Ljava/lang/Object;" (.ref de) := (Sta_keep f12 Kp11 (nsS A10.nostat ns0))
  have f16 : Exa Z T11.heap b3 "com/example/sortition/sortition/Element" := ((Fq5_0.ext E10).keep Kp11)
  obtain ⟨cq13, kq13, q13a, q13b, q13c⟩ := isOf hZ5 rfl Fq11_0
  obtain ⟨_, _, ⟨T13, L13, k13, n13⟩, -, X13, ⟨Lc13, hQ13, l13, y13, z13⟩, st13⟩ := X11.virtualBack hx (y := (⟨"java/util/ArrayList", "add", "(Ljava/lang/Object;)Z"⟩ : MethodName)) (z := (⟨"java/util/ArrayList", "add", "(Ljava/lang/Object;)Z"⟩ : MethodName)) hown5 (mvT hZ5 (ow hw 73 rfl)) (mvT hZ5 (ow hw 74 rfl)) (notFace_of_selects (args := #[]) (mvT hZ5 (ow hw 76 rfl))) (mvT hZ5 (ow hw 76 rfl)) (mvT hZ5 (ow hw 75 rfl)) (by decide) (backOf (W := 0) (rmA0 l Z a0 hw [] b10 b3 de kd (0 : Int32) T11.heap n0 (Nat.le_trans (Nat.le_trans (Nat.le_trans (Nat.le_trans (Nat.le_trans (Nat.le_trans (Nat.le_trans Z0 E1.1) Kp2.1) E3.1) E4.1) Kp5.1) E10.1) Kp11.1) Fq11_1 Fq11_0 Fq11_2 Fq11_3 f14 f15 f16 (Nat.le_trans (Nat.le_trans (Nat.le_trans (Nat.le_trans (Nat.le_trans (Nat.le_trans Z0 E1.1) Kp2.1) E3.1) E4.1) Kp5.1) (Nat.le_of_eq g10.symm)) (Nat.ne_of_lt (Nat.lt_of_lt_of_le (((((V_de.ext E1).keep Kp2 (ninS (Nat.ne_of_lt (Nat.lt_of_lt_of_le V_de.lt (Nat.le_of_eq g1.symm))) nin0)).ext E3).ext E4).keep Kp5 (ninS (Nat.ne_of_lt (Nat.lt_of_lt_of_le ((V_de.ext E1).keep Kp2 (ninS (Nat.ne_of_lt (Nat.lt_of_lt_of_le V_de.lt (Nat.le_of_eq g1.symm))) nin0)).lt (Nat.le_of_eq g3.symm))) nin0)).lt (Nat.le_of_eq g10.symm)))) hZ5 (ow hw 77 rfl) (ow hw 51 rfl) (by decide) (by decide)) q13a q13c (g := (mkF m 65 #[.val (.int ja), .val (.int jb), .val (.int kk), .val (.int (4 : Int32)), .val (.ref b1), .val (.ref b3), .val (.ref b10), .unset] [(.ref b3), (.ref b10)])) rfl (by rw [hml]; rfl) (Steps.refl _) (argsL := [(.ref b3)]) (rest := []) (lenOf pd_11 rfl) rfl (by show 2 * 0 + _ ≤ _; exact Nat.le_of_eq rfl) (hb hby at_65) (fun _ _ => ⟨rfl, rfl, (by decide : 7 + 1 ≤ _), (by decide : 27 + 10 ≤ _)⟩)
  dsimp only [Pt.U, Pt.locs, Pt.cells, Pt.slots] at X13 l13 y13 z13 st13 hQ13
  subst l13 y13 z13
  obtain ⟨nb_13, ka_13, rfl, Nq13, gb13_0, Kp13, Fq13_0, Fq13_1, Fq13_2, Fq13_3, Fq13_4, Pq13_0⟩ := hQ13
  have N13 := Fr.app N11 Nq13
  have f18 : Exa Z T13.heap b3 "com/example/sortition/sortition/Element" := (f16.keep Kp13)
  obtain ⟨cq17, kq17, q17a, q17b, q17c⟩ := isOf hZ5 rfl Fq13_0
  obtain ⟨_, _, ⟨T17, L17, k17, n17⟩, -, X17, ⟨Lc17, hQ17, l17, y17, z17⟩, st17⟩ := X13.virtualBack hx (y := (⟨"java/util/ArrayList", "add", "(Ljava/lang/Object;)Z"⟩ : MethodName)) (z := (⟨"java/util/ArrayList", "add", "(Ljava/lang/Object;)Z"⟩ : MethodName)) hown5 (mvT hZ5 (ow hw 73 rfl)) (mvT hZ5 (ow hw 74 rfl)) (notFace_of_selects (args := #[]) (mvT hZ5 (ow hw 76 rfl))) (mvT hZ5 (ow hw 76 rfl)) (mvT hZ5 (ow hw 75 rfl)) (by decide) (backOf (W := 0) (rmA1 l Z a0 hw [] b10 b3 nb_13 ka_13 ((0 : Int32) + (1 : Int32)) T13.heap n0 (Nat.le_trans (Nat.le_trans (Nat.le_trans (Nat.le_trans (Nat.le_trans (Nat.le_trans (Nat.le_trans (Nat.le_trans Z0 E1.1) Kp2.1) E3.1) E4.1) Kp5.1) E10.1) Kp11.1) Kp13.1) Fq13_1 Fq13_0 Fq13_2 Fq13_3 Fq13_4 Pq13_0 f18 (Nat.le_trans (Nat.le_trans (Nat.le_trans (Nat.le_trans (Nat.le_trans (Nat.le_trans Z0 E1.1) Kp2.1) E3.1) E4.1) Kp5.1) (Nat.le_of_eq g10.symm)) (Ne.symm (Nat.ne_of_lt (Nat.lt_of_lt_of_le Fq11_0.lt gb13_0))) (Nat.le_trans (Nat.le_trans (Nat.le_trans (Nat.le_trans (Nat.le_trans (Nat.le_trans (Nat.le_trans (Nat.le_trans Z0 E1.1) Kp2.1) E3.1) E4.1) Kp5.1) E10.1) Kp11.1) gb13_0)) hZ5 (ow hw 77 rfl) (ow hw 51 rfl) (by decide) (by decide)) q17a q17c (g := (mkF m 78 #[.val (.int ja), .val (.int jb), .val (.int kk), .val (.int (4 : Int32)), .val (.ref b1), .val (.ref b3), .val (.ref b10), .unset] [(.ref b3), (.ref b10)])) rfl (by rw [hml]; rfl) (Steps.refl _) (argsL := [(.ref b3)]) (rest := []) (lenOf pd_11 rfl) rfl (by show 2 * 0 + _ ≤ _; exact Nat.le_of_eq rfl) (hb hby at_78) (fun _ _ => ⟨rfl, rfl, (by decide : 8 + 0 ≤ _), (by decide : 37 + 0 ≤ _)⟩)
  dsimp only [Pt.U, Pt.locs, Pt.cells, Pt.slots] at X17 l17 y17 z17 st17 hQ17
  subst l17 y17 z17
  obtain ⟨rfl, Nq17, Kp17, Fq17_0, Fq17_1, Fq17_2, Fq17_3, Fq17_4⟩ := hQ17
  have N17 := Fr.app N13 Nq17
  have f20 : Exa Z T17.heap b3 "com/example/sortition/sortition/Element" := (f18.keep Kp17)
  obtain ⟨cq19, kq19, q19a, q19b, q19c⟩ := isOf hZ5 rfl Fq17_0
  obtain ⟨_, _, ⟨T19, L19, k19, n19⟩, -, X19, ⟨Lc19, hQ19, l19, y19, z19⟩, st19⟩ := X17.virtualBack hx (y := (⟨"java/util/ArrayList", "add", "(Ljava/lang/Object;)Z"⟩ : MethodName)) (z := (⟨"java/util/ArrayList", "add", "(Ljava/lang/Object;)Z"⟩ : MethodName)) hown5 (mvT hZ5 (ow hw 73 rfl)) (mvT hZ5 (ow hw 74 rfl)) (notFace_of_selects (args := #[]) (mvT hZ5 (ow hw 76 rfl))) (mvT hZ5 (ow hw 76 rfl)) (mvT hZ5 (ow hw 75 rfl)) (by decide) (backOf (W := 0) (rmA2 l Z a0 hw [] b10 b3 nb_13 ka_13 (((0 : Int32) + (1 : Int32)) + (1 : Int32)) T17.heap n0 (Nat.le_trans (Nat.le_trans (Nat.le_trans (Nat.le_trans (Nat.le_trans (Nat.le_trans (Nat.le_trans (Nat.le_trans (Nat.le_trans Z0 E1.1) Kp2.1) E3.1) E4.1) Kp5.1) E10.1) Kp11.1) Kp13.1) Kp17.1) Fq17_1 Fq17_0 Fq17_2 Fq17_3 Fq17_4 Pq13_0 f20 (Nat.le_trans (Nat.le_trans (Nat.le_trans (Nat.le_trans (Nat.le_trans (Nat.le_trans Z0 E1.1) Kp2.1) E3.1) E4.1) Kp5.1) (Nat.le_of_eq g10.symm)) (Ne.symm (Nat.ne_of_lt (Nat.lt_of_lt_of_le Fq11_0.lt gb13_0))) (Nat.le_trans (Nat.le_trans (Nat.le_trans (Nat.le_trans (Nat.le_trans (Nat.le_trans (Nat.le_trans (Nat.le_trans Z0 E1.1) Kp2.1) E3.1) E4.1) Kp5.1) E10.1) Kp11.1) gb13_0)) hZ5 (ow hw 77 rfl) (ow hw 51 rfl) (by decide) (by decide)) q19a q19c (g := (mkF m 91 #[.val (.int ja), .val (.int jb), .val (.int kk), .val (.int (4 : Int32)), .val (.ref b1), .val (.ref b3), .val (.ref b10), .unset] [(.ref b3), (.ref b10)])) rfl (by rw [hml]; rfl) (Steps.refl _) (argsL := [(.ref b3)]) (rest := []) (lenOf pd_11 rfl) rfl (by show 2 * 0 + _ ≤ _; exact Nat.le_of_eq rfl) (hb hby at_91) (fun _ _ => ⟨rfl, rfl, (by decide : 8 + 0 ≤ _), (by decide : 37 + 0 ≤ _)⟩)
  dsimp only [Pt.U, Pt.locs, Pt.cells, Pt.slots] at X19 l19 y19 z19 st19 hQ19
  subst l19 y19 z19
  obtain ⟨rfl, Nq19, Kp19, Fq19_0, Fq19_1, Fq19_2, Fq19_3, Fq19_4⟩ := hQ19
  have N19 := Fr.app N17 Nq19
  have f22 : Exa Z T19.heap b3 "com/example/sortition/sortition/Element" := (f20.keep Kp19)
  obtain ⟨cq21, kq21, q21a, q21b, q21c⟩ := isOf hZ5 rfl Fq19_0
  obtain ⟨_, _, ⟨T21, L21, k21, n21⟩, -, X21, ⟨Lc21, hQ21, l21, y21, z21⟩, st21⟩ := X19.virtualBack hx (y := (⟨"java/util/ArrayList", "add", "(Ljava/lang/Object;)Z"⟩ : MethodName)) (z := (⟨"java/util/ArrayList", "add", "(Ljava/lang/Object;)Z"⟩ : MethodName)) hown5 (mvT hZ5 (ow hw 73 rfl)) (mvT hZ5 (ow hw 74 rfl)) (notFace_of_selects (args := #[]) (mvT hZ5 (ow hw 76 rfl))) (mvT hZ5 (ow hw 76 rfl)) (mvT hZ5 (ow hw 75 rfl)) (by decide) (backOf (W := 0) (rmA3 l Z a0 hw [] b10 b3 nb_13 ka_13 ((((0 : Int32) + (1 : Int32)) + (1 : Int32)) + (1 : Int32)) T19.heap n0 (Nat.le_trans (Nat.le_trans (Nat.le_trans (Nat.le_trans (Nat.le_trans (Nat.le_trans (Nat.le_trans (Nat.le_trans (Nat.le_trans (Nat.le_trans Z0 E1.1) Kp2.1) E3.1) E4.1) Kp5.1) E10.1) Kp11.1) Kp13.1) Kp17.1) Kp19.1) Fq19_1 Fq19_0 Fq19_2 Fq19_3 Fq19_4 Pq13_0 f22 (Nat.le_trans (Nat.le_trans (Nat.le_trans (Nat.le_trans (Nat.le_trans (Nat.le_trans Z0 E1.1) Kp2.1) E3.1) E4.1) Kp5.1) (Nat.le_of_eq g10.symm)) (Ne.symm (Nat.ne_of_lt (Nat.lt_of_lt_of_le Fq11_0.lt gb13_0))) (Nat.le_trans (Nat.le_trans (Nat.le_trans (Nat.le_trans (Nat.le_trans (Nat.le_trans (Nat.le_trans (Nat.le_trans Z0 E1.1) Kp2.1) E3.1) E4.1) Kp5.1) E10.1) Kp11.1) gb13_0)) hZ5 (ow hw 77 rfl) (ow hw 51 rfl) (by decide) (by decide)) q21a q21c (g := (mkF m 104 #[.val (.int ja), .val (.int jb), .val (.int kk), .val (.int (4 : Int32)), .val (.ref b1), .val (.ref b3), .val (.ref b10), .unset] [(.ref b3), (.ref b10)])) rfl (by rw [hml]; rfl) (Steps.refl _) (argsL := [(.ref b3)]) (rest := []) (lenOf pd_11 rfl) rfl (by show 2 * 0 + _ ≤ _; exact Nat.le_of_eq rfl) (hb hby at_104) (fun _ _ => ⟨rfl, rfl, (by decide : 8 + 0 ≤ _), (by decide : 37 + 0 ≤ _)⟩)
  dsimp only [Pt.U, Pt.locs, Pt.cells, Pt.slots] at X21 l21 y21 z21 st21 hQ21
  subst l21 y21 z21
  obtain ⟨rfl, Nq21, Kp21, Fq21_0, Fq21_1, Fq21_2, Fq21_3, Fq21_4⟩ := hQ21
  have N21 := Fr.app N19 Nq21
  have f24 : Fld Z T21.heap b1 "com/example/sortition/sortition/Slots" "size" "I" (.int kk) := (((((((((Fq2_1.ext E3).ext E4).keep Kp5 (ninS (Nat.ne_of_lt (Nat.lt_of_lt_of_le Fq2_0.lt (Nat.le_of_eq g3.symm))) nin0)).ext E10).keep Kp11 (ninS (Nat.ne_of_lt (Nat.lt_of_lt_of_le (((Fq2_0.ext E3).ext E4).keep Kp5).lt (Nat.le_of_eq g10.symm))) nin0)).keep Kp13 (ninS (Nat.ne_of_lt (Nat.lt_of_lt_of_le (((Fq2_0.ext E3).ext E4).keep Kp5).lt (Nat.le_of_eq g10.symm))) nin0)).keep Kp17 (ninS (Nat.ne_of_lt (Nat.lt_of_lt_of_le (((Fq2_0.ext E3).ext E4).keep Kp5).lt (Nat.le_of_eq g10.symm))) (ninS (Nat.ne_of_lt (Nat.lt_of_lt_of_le (((((Fq2_0.ext E3).ext E4).keep Kp5).ext E10).keep Kp11).lt gb13_0)) nin0))).keep Kp19 (ninS (Nat.ne_of_lt (Nat.lt_of_lt_of_le (((Fq2_0.ext E3).ext E4).keep Kp5).lt (Nat.le_of_eq g10.symm))) (ninS (Nat.ne_of_lt (Nat.lt_of_lt_of_le (((((Fq2_0.ext E3).ext E4).keep Kp5).ext E10).keep Kp11).lt gb13_0)) nin0))).keep Kp21 (ninS (Nat.ne_of_lt (Nat.lt_of_lt_of_le (((Fq2_0.ext E3).ext E4).keep Kp5).lt (Nat.le_of_eq g10.symm))) (ninS (Nat.ne_of_lt (Nat.lt_of_lt_of_le (((((Fq2_0.ext E3).ext E4).keep Kp5).ext E10).keep Kp11).lt gb13_0)) nin0)))
  have f25 : Exa Z T21.heap b1 "com/example/sortition/sortition/Slots" := (((((((((Fq2_0.ext E3).ext E4).keep Kp5).ext E10).keep Kp11).keep Kp13).keep Kp17).keep Kp19).keep Kp21)
  obtain ⟨cq23, kq23, q23a, q23b, q23c⟩ := isOf hZ5 rfl f25
  obtain ⟨_, _, ⟨T23, L23, k23, n23⟩, -, X23, ⟨Lc23, hQ23, l23, y23, z23⟩, st23⟩ := X21.virtualBack hx (y := (⟨"com/example/sortition/sortition/Slots", "allows", "(Ljava/util/List;)Z"⟩ : MethodName)) (z := (⟨"com/example/sortition/sortition/Slots", "allows", "(Ljava/util/List;)Z"⟩ : MethodName)) hown5 (mvT hZ5 (ow hw 104 rfl)) (mvT hZ5 (ow hw 105 rfl)) (notFace_of_selects (args := #[]) (mvT hZ5 (ow hw 107 rfl))) (mvT hZ5 (ow hw 107 rfl)) (mvT hZ5 (ow hw 106 rfl)) (by decide) (backOf (W := 0) (rmAW_f l Z a0 hw [] b1 b10 (4 : Int32) kk T21.heap n0 (Nat.le_trans (Nat.le_trans (Nat.le_trans (Nat.le_trans (Nat.le_trans (Nat.le_trans (Nat.le_trans (Nat.le_trans (Nat.le_trans (Nat.le_trans (Nat.le_trans Z0 E1.1) Kp2.1) E3.1) E4.1) Kp5.1) E10.1) Kp11.1) Kp13.1) Kp17.1) Kp19.1) Kp21.1) Fq21_0 Fq21_3 f24 hrd) hZ5 (ow hw 108 rfl) (ow hw 2 rfl) (by decide) (by decide)) q23a q23c (g := (mkF m 164 #[.val (.int ja), .val (.int jb), .val (.int kk), .val (.int (4 : Int32)), .val (.ref b1), .val (.ref b3), .val (.ref b10), .val (.int (1 : Int32))] [(.ref b10), (.ref b1)])) rfl (by rw [hml]; rfl) (Steps.refl _) (argsL := [(.ref b10)]) (rest := []) (lenOf pd_10 rfl) rfl (by show 2 * 0 + _ ≤ _; exact Nat.le_of_eq rfl) (hb hby at_164) (fun _ _ => ⟨rfl, rfl, (by decide : 8 + 0 ≤ _), (by decide : 37 + 0 ≤ _)⟩)
  dsimp only [Pt.U, Pt.locs, Pt.cells, Pt.slots] at X23 l23 y23 z23 st23 hQ23
  subst l23 y23 z23
  obtain ⟨rfl, Nq23, e23⟩ := hQ23
  have N23 := Fr.app N21 Nq23
  obtain ⟨fs, hr, hrun, hended, hRW⟩ := X23.leaveW (s := s) hS5 (by rw [e23]; exact (Nat.le_trans (Nat.le_trans (Nat.le_trans (Nat.le_trans (Nat.le_trans (Nat.le_trans (Nat.le_refl _) E10.1) Kp11.1) Kp13.1) Kp17.1) Kp19.1) Kp21.1)) (v := some (.int (1 : Int32))) (fun h => by rw [Bd.returns] at h; cases h)
  refine ⟨_, _, pre0 _ ?_, hrun, hended, _, _, rfl, ?_, hRW.1, hRW.2.1, hRW.2.2.1, hRW.2.2.2.mono (by decide) (by decide)⟩
  · show Steps p.tables e below (s₁.setTop (mkF m 0 #[.val (.int ja), .val (.int jb), .unset, .unset, .unset, .unset, .unset, .unset] [])) _
    refine stp _ ?_
    show Steps p.tables e below (s₁.setTop (mkF m 20 #[.val (.int ja), .val (.int jb), .val (.int kk), .unset, .unset, .unset, .unset, .unset] [])) _
    refine XS.iloadN X0.here hx rfl (hb hby at_20) rfl ?_
    show Steps p.tables e below (s₁.setTop (mkF m 21 #[.val (.int ja), .val (.int jb), .val (.int kk), .unset, .unset, .unset, .unset, .unset] [(.int jb)])) _
    refine XS.bipush X0.here hx rfl (hb hby at_21) ?_
    show Steps p.tables e below (s₁.setTop (mkF m 23 #[.val (.int ja), .val (.int jb), .val (.int kk), .unset, .unset, .unset, .unset, .unset] [(.int (7 : Int32)), (.int jb)])) _
    refine XS.iand X0.here hx rfl (hb hby at_23) rfl ?_
    show Steps p.tables e below (s₁.setTop (mkF m 24 #[.val (.int ja), .val (.int jb), .val (.int kk), .unset, .unset, .unset, .unset, .unset] [(.int (jb &&& (7 : Int32)))])) _
    rw [hn]
    show Steps p.tables e below (s₁.setTop (mkF m 24 #[.val (.int ja), .val (.int jb), .val (.int kk), .unset, .unset, .unset, .unset, .unset] [(.int (4 : Int32))])) _
    refine XS.istoreN X0.here hx rfl (hb hby at_24) rfl (l' := #[.val (.int ja), .val (.int jb), .val (.int kk), .val (.int (4 : Int32)), .unset, .unset, .unset, .unset]) rfl ?_
    show Steps p.tables e below (s₁.setTop (mkF m 25 #[.val (.int ja), .val (.int jb), .val (.int kk), .val (.int (4 : Int32)), .unset, .unset, .unset, .unset] [])) _
    refine st1 _ ?_
    show Steps p.tables e below (T1.setTop (mkF m 28 #[.val (.int ja), .val (.int jb), .val (.int kk), .val (.int (4 : Int32)), .unset, .unset, .unset, .unset] [(.ref b1)])) _
    refine XS.dup X1.here hx rfl (hb hby at_28) rfl rfl ?_
    show Steps p.tables e below (T1.setTop (mkF m 29 #[.val (.int ja), .val (.int jb), .val (.int kk), .val (.int (4 : Int32)), .unset, .unset, .unset, .unset] [(.ref b1), (.ref b1)])) _
    refine XS.iloadN X1.here hx rfl (hb hby at_29) rfl ?_
    show Steps p.tables e below (T1.setTop (mkF m 30 #[.val (.int ja), .val (.int jb), .val (.int kk), .val (.int (4 : Int32)), .unset, .unset, .unset, .unset] [(.int kk), (.ref b1), (.ref b1)])) _
    refine st2.trans ?_
    show Steps p.tables e below (T2.setTop (mkF m 33 #[.val (.int ja), .val (.int jb), .val (.int kk), .val (.int (4 : Int32)), .unset, .unset, .unset, .unset] [(.ref b1)])) _
    refine XS.astore X2.here hx rfl (hb hby at_33) rfl rfl (l' := #[.val (.int ja), .val (.int jb), .val (.int kk), .val (.int (4 : Int32)), .val (.ref b1), .unset, .unset, .unset]) rfl ?_
    show Steps p.tables e below (T2.setTop (mkF m 35 #[.val (.int ja), .val (.int jb), .val (.int kk), .val (.int (4 : Int32)), .val (.ref b1), .unset, .unset, .unset] [])) _
    refine st3 _ ?_
    show Steps p.tables e below (T3.setTop (mkF m 38 #[.val (.int ja), .val (.int jb), .val (.int kk), .val (.int (4 : Int32)), .val (.ref b1), .unset, .unset, .unset] [(.ref b3)])) _
    refine XS.dup X3.here hx rfl (hb hby at_38) rfl rfl ?_
    show Steps p.tables e below (T3.setTop (mkF m 39 #[.val (.int ja), .val (.int jb), .val (.int kk), .val (.int (4 : Int32)), .val (.ref b1), .unset, .unset, .unset] [(.ref b3), (.ref b3)])) _
    refine XS.iconst X3.here hx rfl (hb hby at_39) ?_
    show Steps p.tables e below (T3.setTop (mkF m 40 #[.val (.int ja), .val (.int jb), .val (.int kk), .val (.int (4 : Int32)), .val (.ref b1), .unset, .unset, .unset] [(.int (0 : Int32)), (.ref b3), (.ref b3)])) _
    refine st4 _ ?_
    show Steps p.tables e below (T4.setTop (mkF m 42 #[.val (.int ja), .val (.int jb), .val (.int kk), .val (.int (4 : Int32)), .val (.ref b1), .unset, .unset, .unset] [(.ref a4), (.int (0 : Int32)), (.ref b3), (.ref b3)])) _
    refine XS.dconst1 X4.here hx rfl (hb hby at_42) (v := 4607182418800017408) rfl ?_
    show Steps p.tables e below (T4.setTop (mkF m 43 #[.val (.int ja), .val (.int jb), .val (.int kk), .val (.int (4 : Int32)), .val (.ref b1), .unset, .unset, .unset] [(.double 4607182418800017408), (.ref a4), (.int (0 : Int32)), (.ref b3), (.ref b3)])) _
    refine st5.trans ?_
    show Steps p.tables e below (T5.setTop (mkF m 46 #[.val (.int ja), .val (.int jb), .val (.int kk), .val (.int (4 : Int32)), .val (.ref b1), .unset, .unset, .unset] [(.ref b3)])) _
    refine XS.astore X5.here hx rfl (hb hby at_46) rfl rfl (l' := #[.val (.int ja), .val (.int jb), .val (.int kk), .val (.int (4 : Int32)), .val (.ref b1), .val (.ref b3), .unset, .unset]) rfl ?_
    show Steps p.tables e below (T5.setTop (mkF m 48 #[.val (.int ja), .val (.int jb), .val (.int kk), .val (.int (4 : Int32)), .val (.ref b1), .val (.ref b3), .unset, .unset] [])) _
    refine st10 _ ?_
    show Steps p.tables e below (T10.setTop (mkF m 51 #[.val (.int ja), .val (.int jb), .val (.int kk), .val (.int (4 : Int32)), .val (.ref b1), .val (.ref b3), .unset, .unset] [(.ref b10)])) _
    refine XS.dup X10.here hx rfl (hb hby at_51) rfl rfl ?_
    show Steps p.tables e below (T10.setTop (mkF m 52 #[.val (.int ja), .val (.int jb), .val (.int kk), .val (.int (4 : Int32)), .val (.ref b1), .val (.ref b3), .unset, .unset] [(.ref b10), (.ref b10)])) _
    refine st11.trans ?_
    show Steps p.tables e below (T11.setTop (mkF m 55 #[.val (.int ja), .val (.int jb), .val (.int kk), .val (.int (4 : Int32)), .val (.ref b1), .val (.ref b3), .unset, .unset] [(.ref b10)])) _
    refine XS.astore X11.here hx rfl (hb hby at_55) rfl rfl (l' := #[.val (.int ja), .val (.int jb), .val (.int kk), .val (.int (4 : Int32)), .val (.ref b1), .val (.ref b3), .val (.ref b10), .unset]) rfl ?_
    show Steps p.tables e below (T11.setTop (mkF m 57 #[.val (.int ja), .val (.int jb), .val (.int kk), .val (.int (4 : Int32)), .val (.ref b1), .val (.ref b3), .val (.ref b10), .unset] [])) _
    refine XS.iloadN X11.here hx rfl (hb hby at_57) rfl ?_
    show Steps p.tables e below (T11.setTop (mkF m 58 #[.val (.int ja), .val (.int jb), .val (.int kk), .val (.int (4 : Int32)), .val (.ref b1), .val (.ref b3), .val (.ref b10), .unset] [(.int (4 : Int32))])) _
    refine XS.ifNo X11.here hx rfl (hb hby at_58) rfl ((if0 _ _).trans (tlt (by decide : (0 : Int32) < (4 : Int32))).2.2.2) ?_
    show Steps p.tables e below (T11.setTop (mkF m 61 #[.val (.int ja), .val (.int jb), .val (.int kk), .val (.int (4 : Int32)), .val (.ref b1), .val (.ref b3), .val (.ref b10), .unset] [])) _
    refine XS.aload X11.here hx rfl (hb hby at_61) rfl rfl ?_
    show Steps p.tables e below (T11.setTop (mkF m 63 #[.val (.int ja), .val (.int jb), .val (.int kk), .val (.int (4 : Int32)), .val (.ref b1), .val (.ref b3), .val (.ref b10), .unset] [(.ref b10)])) _
    refine XS.aload X11.here hx rfl (hb hby at_63) rfl rfl ?_
    show Steps p.tables e below (T11.setTop (mkF m 65 #[.val (.int ja), .val (.int jb), .val (.int kk), .val (.int (4 : Int32)), .val (.ref b1), .val (.ref b3), .val (.ref b10), .unset] [(.ref b3), (.ref b10)])) _
    refine st13.trans ?_
    show Steps p.tables e below (T13.setTop (mkF m 68 #[.val (.int ja), .val (.int jb), .val (.int kk), .val (.int (4 : Int32)), .val (.ref b1), .val (.ref b3), .val (.ref b10), .unset] [(.int (1 : Int32))])) _
    refine XS.pop X13.here hx rfl (hb hby at_68) rfl rfl ?_
    show Steps p.tables e below (T13.setTop (mkF m 69 #[.val (.int ja), .val (.int jb), .val (.int kk), .val (.int (4 : Int32)), .val (.ref b1), .val (.ref b3), .val (.ref b10), .unset] [])) _
    refine XS.iloadN X13.here hx rfl (hb hby at_69) rfl ?_
    show Steps p.tables e below (T13.setTop (mkF m 70 #[.val (.int ja), .val (.int jb), .val (.int kk), .val (.int (4 : Int32)), .val (.ref b1), .val (.ref b3), .val (.ref b10), .unset] [(.int (4 : Int32))])) _
    refine XS.iconst X13.here hx rfl (hb hby at_70) ?_
    show Steps p.tables e below (T13.setTop (mkF m 71 #[.val (.int ja), .val (.int jb), .val (.int kk), .val (.int (4 : Int32)), .val (.ref b1), .val (.ref b3), .val (.ref b10), .unset] [(.int (1 : Int32)), (.int (4 : Int32))])) _
    refine XS.icmpNo X13.here hx rfl (hb hby at_71) rfl (tlt (by decide : (1 : Int32) < (4 : Int32))).2.2.2 ?_
    show Steps p.tables e below (T13.setTop (mkF m 74 #[.val (.int ja), .val (.int jb), .val (.int kk), .val (.int (4 : Int32)), .val (.ref b1), .val (.ref b3), .val (.ref b10), .unset] [])) _
    refine XS.aload X13.here hx rfl (hb hby at_74) rfl rfl ?_
    show Steps p.tables e below (T13.setTop (mkF m 76 #[.val (.int ja), .val (.int jb), .val (.int kk), .val (.int (4 : Int32)), .val (.ref b1), .val (.ref b3), .val (.ref b10), .unset] [(.ref b10)])) _
    refine XS.aload X13.here hx rfl (hb hby at_76) rfl rfl ?_
    show Steps p.tables e below (T13.setTop (mkF m 78 #[.val (.int ja), .val (.int jb), .val (.int kk), .val (.int (4 : Int32)), .val (.ref b1), .val (.ref b3), .val (.ref b10), .unset] [(.ref b3), (.ref b10)])) _
    refine st17.trans ?_
    show Steps p.tables e below (T17.setTop (mkF m 81 #[.val (.int ja), .val (.int jb), .val (.int kk), .val (.int (4 : Int32)), .val (.ref b1), .val (.ref b3), .val (.ref b10), .unset] [(.int (1 : Int32))])) _
    refine XS.pop X17.here hx rfl (hb hby at_81) rfl rfl ?_
    show Steps p.tables e below (T17.setTop (mkF m 82 #[.val (.int ja), .val (.int jb), .val (.int kk), .val (.int (4 : Int32)), .val (.ref b1), .val (.ref b3), .val (.ref b10), .unset] [])) _
    refine XS.iloadN X17.here hx rfl (hb hby at_82) rfl ?_
    show Steps p.tables e below (T17.setTop (mkF m 83 #[.val (.int ja), .val (.int jb), .val (.int kk), .val (.int (4 : Int32)), .val (.ref b1), .val (.ref b3), .val (.ref b10), .unset] [(.int (4 : Int32))])) _
    refine XS.iconst X17.here hx rfl (hb hby at_83) ?_
    show Steps p.tables e below (T17.setTop (mkF m 84 #[.val (.int ja), .val (.int jb), .val (.int kk), .val (.int (4 : Int32)), .val (.ref b1), .val (.ref b3), .val (.ref b10), .unset] [(.int (2 : Int32)), (.int (4 : Int32))])) _
    refine XS.icmpNo X17.here hx rfl (hb hby at_84) rfl (tlt (by decide : (2 : Int32) < (4 : Int32))).2.2.2 ?_
    show Steps p.tables e below (T17.setTop (mkF m 87 #[.val (.int ja), .val (.int jb), .val (.int kk), .val (.int (4 : Int32)), .val (.ref b1), .val (.ref b3), .val (.ref b10), .unset] [])) _
    refine XS.aload X17.here hx rfl (hb hby at_87) rfl rfl ?_
    show Steps p.tables e below (T17.setTop (mkF m 89 #[.val (.int ja), .val (.int jb), .val (.int kk), .val (.int (4 : Int32)), .val (.ref b1), .val (.ref b3), .val (.ref b10), .unset] [(.ref b10)])) _
    refine XS.aload X17.here hx rfl (hb hby at_89) rfl rfl ?_
    show Steps p.tables e below (T17.setTop (mkF m 91 #[.val (.int ja), .val (.int jb), .val (.int kk), .val (.int (4 : Int32)), .val (.ref b1), .val (.ref b3), .val (.ref b10), .unset] [(.ref b3), (.ref b10)])) _
    refine st19.trans ?_
    show Steps p.tables e below (T19.setTop (mkF m 94 #[.val (.int ja), .val (.int jb), .val (.int kk), .val (.int (4 : Int32)), .val (.ref b1), .val (.ref b3), .val (.ref b10), .unset] [(.int (1 : Int32))])) _
    refine XS.pop X19.here hx rfl (hb hby at_94) rfl rfl ?_
    show Steps p.tables e below (T19.setTop (mkF m 95 #[.val (.int ja), .val (.int jb), .val (.int kk), .val (.int (4 : Int32)), .val (.ref b1), .val (.ref b3), .val (.ref b10), .unset] [])) _
    refine XS.iloadN X19.here hx rfl (hb hby at_95) rfl ?_
    show Steps p.tables e below (T19.setTop (mkF m 96 #[.val (.int ja), .val (.int jb), .val (.int kk), .val (.int (4 : Int32)), .val (.ref b1), .val (.ref b3), .val (.ref b10), .unset] [(.int (4 : Int32))])) _
    refine XS.iconst X19.here hx rfl (hb hby at_96) ?_
    show Steps p.tables e below (T19.setTop (mkF m 97 #[.val (.int ja), .val (.int jb), .val (.int kk), .val (.int (4 : Int32)), .val (.ref b1), .val (.ref b3), .val (.ref b10), .unset] [(.int (3 : Int32)), (.int (4 : Int32))])) _
    refine XS.icmpNo X19.here hx rfl (hb hby at_97) rfl (tlt (by decide : (3 : Int32) < (4 : Int32))).2.2.2 ?_
    show Steps p.tables e below (T19.setTop (mkF m 100 #[.val (.int ja), .val (.int jb), .val (.int kk), .val (.int (4 : Int32)), .val (.ref b1), .val (.ref b3), .val (.ref b10), .unset] [])) _
    refine XS.aload X19.here hx rfl (hb hby at_100) rfl rfl ?_
    show Steps p.tables e below (T19.setTop (mkF m 102 #[.val (.int ja), .val (.int jb), .val (.int kk), .val (.int (4 : Int32)), .val (.ref b1), .val (.ref b3), .val (.ref b10), .unset] [(.ref b10)])) _
    refine XS.aload X19.here hx rfl (hb hby at_102) rfl rfl ?_
    show Steps p.tables e below (T19.setTop (mkF m 104 #[.val (.int ja), .val (.int jb), .val (.int kk), .val (.int (4 : Int32)), .val (.ref b1), .val (.ref b3), .val (.ref b10), .unset] [(.ref b3), (.ref b10)])) _
    refine st21.trans ?_
    show Steps p.tables e below (T21.setTop (mkF m 107 #[.val (.int ja), .val (.int jb), .val (.int kk), .val (.int (4 : Int32)), .val (.ref b1), .val (.ref b3), .val (.ref b10), .unset] [(.int (1 : Int32))])) _
    refine XS.pop X21.here hx rfl (hb hby at_107) rfl rfl ?_
    show Steps p.tables e below (T21.setTop (mkF m 108 #[.val (.int ja), .val (.int jb), .val (.int kk), .val (.int (4 : Int32)), .val (.ref b1), .val (.ref b3), .val (.ref b10), .unset] [])) _
    refine XS.iloadN X21.here hx rfl (hb hby at_108) rfl ?_
    show Steps p.tables e below (T21.setTop (mkF m 109 #[.val (.int ja), .val (.int jb), .val (.int kk), .val (.int (4 : Int32)), .val (.ref b1), .val (.ref b3), .val (.ref b10), .unset] [(.int (4 : Int32))])) _
    refine XS.iconst X21.here hx rfl (hb hby at_109) ?_
    show Steps p.tables e below (T21.setTop (mkF m 110 #[.val (.int ja), .val (.int jb), .val (.int kk), .val (.int (4 : Int32)), .val (.ref b1), .val (.ref b3), .val (.ref b10), .unset] [(.int (4 : Int32)), (.int (4 : Int32))])) _
    refine XS.icmpYes X21.here hx rfl (pc0 := 110) (pc' := 121) rfl (hb hby at_110) rfl (flt (by decide : ¬ ((4 : Int32) < (4 : Int32)))).2.2.2 (by decide) (by decide) ?_
    show Steps p.tables e below (T21.setTop (mkF m 121 #[.val (.int ja), .val (.int jb), .val (.int kk), .val (.int (4 : Int32)), .val (.ref b1), .val (.ref b3), .val (.ref b10), .unset] [])) _
    refine XS.iloadN X21.here hx rfl (hb hby at_121) rfl ?_
    show Steps p.tables e below (T21.setTop (mkF m 122 #[.val (.int ja), .val (.int jb), .val (.int kk), .val (.int (4 : Int32)), .val (.ref b1), .val (.ref b3), .val (.ref b10), .unset] [(.int (4 : Int32))])) _
    refine XS.iconst X21.here hx rfl (hb hby at_122) ?_
    show Steps p.tables e below (T21.setTop (mkF m 123 #[.val (.int ja), .val (.int jb), .val (.int kk), .val (.int (4 : Int32)), .val (.ref b1), .val (.ref b3), .val (.ref b10), .unset] [(.int (5 : Int32)), (.int (4 : Int32))])) _
    refine XS.icmpYes X21.here hx rfl (pc0 := 123) (pc' := 134) rfl (hb hby at_123) rfl (flt (by decide : ¬ ((5 : Int32) < (4 : Int32)))).2.2.2 (by decide) (by decide) ?_
    show Steps p.tables e below (T21.setTop (mkF m 134 #[.val (.int ja), .val (.int jb), .val (.int kk), .val (.int (4 : Int32)), .val (.ref b1), .val (.ref b3), .val (.ref b10), .unset] [])) _
    refine XS.iloadN X21.here hx rfl (hb hby at_134) rfl ?_
    show Steps p.tables e below (T21.setTop (mkF m 135 #[.val (.int ja), .val (.int jb), .val (.int kk), .val (.int (4 : Int32)), .val (.ref b1), .val (.ref b3), .val (.ref b10), .unset] [(.int (4 : Int32))])) _
    refine XS.bipush X21.here hx rfl (hb hby at_135) ?_
    show Steps p.tables e below (T21.setTop (mkF m 137 #[.val (.int ja), .val (.int jb), .val (.int kk), .val (.int (4 : Int32)), .val (.ref b1), .val (.ref b3), .val (.ref b10), .unset] [(.int (6 : Int32)), (.int (4 : Int32))])) _
    refine XS.icmpYes X21.here hx rfl (pc0 := 137) (pc' := 148) rfl (hb hby at_137) rfl (flt (by decide : ¬ ((6 : Int32) < (4 : Int32)))).2.2.2 (by decide) (by decide) ?_
    show Steps p.tables e below (T21.setTop (mkF m 148 #[.val (.int ja), .val (.int jb), .val (.int kk), .val (.int (4 : Int32)), .val (.ref b1), .val (.ref b3), .val (.ref b10), .unset] [])) _
    refine XS.iloadN X21.here hx rfl (hb hby at_148) rfl ?_
    show Steps p.tables e below (T21.setTop (mkF m 149 #[.val (.int ja), .val (.int jb), .val (.int kk), .val (.int (4 : Int32)), .val (.ref b1), .val (.ref b3), .val (.ref b10), .unset] [(.int (4 : Int32))])) _
    refine XS.iloadN X21.here hx rfl (hb hby at_149) rfl ?_
    show Steps p.tables e below (T21.setTop (mkF m 150 #[.val (.int ja), .val (.int jb), .val (.int kk), .val (.int (4 : Int32)), .val (.ref b1), .val (.ref b3), .val (.ref b10), .unset] [(.int kk), (.int (4 : Int32))])) _
    refine XS.icmpNo X21.here hx rfl (hb hby at_150) rfl (flt hrd).2.2.1 ?_
    show Steps p.tables e below (T21.setTop (mkF m 153 #[.val (.int ja), .val (.int jb), .val (.int kk), .val (.int (4 : Int32)), .val (.ref b1), .val (.ref b3), .val (.ref b10), .unset] [])) _
    refine XS.iconst X21.here hx rfl (hb hby at_153) ?_
    show Steps p.tables e below (T21.setTop (mkF m 154 #[.val (.int ja), .val (.int jb), .val (.int kk), .val (.int (4 : Int32)), .val (.ref b1), .val (.ref b3), .val (.ref b10), .unset] [(.int (1 : Int32))])) _
    refine XS.goto X21.here hx rfl (pc0 := 154) (pc' := 158) rfl (hb hby at_154) (by decide) (by decide) ?_
    show Steps p.tables e below (T21.setTop (mkF m 158 #[.val (.int ja), .val (.int jb), .val (.int kk), .val (.int (4 : Int32)), .val (.ref b1), .val (.ref b3), .val (.ref b10), .unset] [(.int (1 : Int32))])) _
    refine XS.istore X21.here hx rfl (hb hby at_158) rfl (l' := #[.val (.int ja), .val (.int jb), .val (.int kk), .val (.int (4 : Int32)), .val (.ref b1), .val (.ref b3), .val (.ref b10), .val (.int (1 : Int32))]) rfl ?_
    show Steps p.tables e below (T21.setTop (mkF m 160 #[.val (.int ja), .val (.int jb), .val (.int kk), .val (.int (4 : Int32)), .val (.ref b1), .val (.ref b3), .val (.ref b10), .val (.int (1 : Int32))] [])) _
    refine XS.aload X21.here hx rfl (hb hby at_160) rfl rfl ?_
    show Steps p.tables e below (T21.setTop (mkF m 162 #[.val (.int ja), .val (.int jb), .val (.int kk), .val (.int (4 : Int32)), .val (.ref b1), .val (.ref b3), .val (.ref b10), .val (.int (1 : Int32))] [(.ref b1)])) _
    refine XS.aload X21.here hx rfl (hb hby at_162) rfl rfl ?_
    show Steps p.tables e below (T21.setTop (mkF m 164 #[.val (.int ja), .val (.int jb), .val (.int kk), .val (.int (4 : Int32)), .val (.ref b1), .val (.ref b3), .val (.ref b10), .val (.int (1 : Int32))] [(.ref b10), (.ref b1)])) _
    refine st23.trans ?_
    show Steps p.tables e below (T23.setTop (mkF m 167 #[.val (.int ja), .val (.int jb), .val (.int kk), .val (.int (4 : Int32)), .val (.ref b1), .val (.ref b3), .val (.ref b10), .val (.int (1 : Int32))] [(.int (1 : Int32))])) _
    refine XS.iload X23.here hx rfl (hb hby at_167) rfl ?_
    show Steps p.tables e below (T23.setTop (mkF m 169 #[.val (.int ja), .val (.int jb), .val (.int kk), .val (.int (4 : Int32)), .val (.ref b1), .val (.ref b3), .val (.ref b10), .val (.int (1 : Int32))] [(.int (1 : Int32)), (.int (1 : Int32))])) _
    refine XS.icmpNo X23.here hx rfl (hb hby at_169) rfl (teq (rfl : (1 : Int32) = (1 : Int32))).2 ?_
    show Steps p.tables e below (T23.setTop (mkF m 172 #[.val (.int ja), .val (.int jb), .val (.int kk), .val (.int (4 : Int32)), .val (.ref b1), .val (.ref b3), .val (.ref b10), .val (.int (1 : Int32))] [])) _
    refine XS.iconst X23.here hx rfl (hb hby at_172) ?_
    show Steps p.tables e below (T23.setTop (mkF m 173 #[.val (.int ja), .val (.int jb), .val (.int kk), .val (.int (4 : Int32)), .val (.ref b1), .val (.ref b3), .val (.ref b10), .val (.int (1 : Int32))] [(.int (1 : Int32))])) _
    refine XS.goto X23.here hx rfl (pc0 := 173) (pc' := 177) rfl (hb hby at_173) (by decide) (by decide) ?_
    show Steps p.tables e below (T23.setTop (mkF m 177 #[.val (.int ja), .val (.int jb), .val (.int kk), .val (.int (4 : Int32)), .val (.ref b1), .val (.ref b3), .val (.ref b10), .val (.int (1 : Int32))] [(.int (1 : Int32))])) _
    exact retN X23 hx (t := .boolean) Bd.returns (by simp) (hb hby at_177) hr
  · show Q_rm0_4f Z ja jb kk de kd h0 n0 _ T23.heap _
    rw [e23]
    exact ⟨rfl, N23⟩
def Q_rm0_5t (Z : State) (ja : Int32) (jb : Int32) (kk : Int32) (de : Addr) (kd : ClassId) (h0 : Heap) (n0 : Nat) (v : Option Value) (h : Heap) (L : List Loc) : Prop := v = some (.int (1 : Int32)) ∧ Fr n0 L
theorem ef_rm0_5t (m : MethodId) (ja : Int32) (jb : Int32) : entryFrame m #[(.int ja), (.int jb)] maxLocals = mkF m 0 #[.val (.int ja), .val (.int jb), .unset, .unset, .unset, .unset, .unset, .unset] [] := by first | (simp [entryFrame, mkF, argsToLocals, Value.category, maxLocals]; done) | rfl
set_option maxRecDepth 65536 in
set_option maxHeartbeats 40000000 in
theorem rm0_5t (l : Launch) (Z : State) (a0 : Array Value) (hw : ∀ d ∈ tables_1, d.before a0 Z = true) (ws : List Jvm.Cond) (ja : Int32) (jb : Int32) (kk : Int32) (de : Addr) (kd : ClassId) (h0 : Heap) (n0 : Nat) (Z0 : n0 ≤ h0.size) (hwS : ∀ a ∈ Bundle.stringAtoms, a.before a0 Z = true) (hn0 : n0 = h0.size) (hcn : Jvm.Lit.constHeld Z "com/example/sortition/sortition/SlotsAllowsPinLaw" 15) (hcw : Jvm.Lit.compactW.before a0 Z = true) (S_DE : Sta Z h0 "java/util/ArrayList" "DEFAULTCAPACITY_EMPTY_ELEMENTDATA" "[Ljava/lang/Object;" (.ref de)) (V_de : Arv Z h0 de kd (.object "java/lang/Object") (0 : Int32) [] .null) (hkk : (own_k ja jb) = kk) (gkk : ¬ (kk < (0 : Int32))) (hn : (jb &&& (7 : Int32)) = (5 : Int32)) (hrd : kk < (5 : Int32)) :
    MetFree l x (head1 (Jvm.Cond.code x code maxLocals ret :: ws) room_1) (fun a U => a = #[(.int ja), (.int jb)] ∧ Z.Warmed39 U.vm ∧ U.heap = h0 ∧ U.vm.interned = Z.vm.interned ∧ (∀ (b : Addr) (cl : Cell), Z.heap[b]? = some cl → U.heap[b]? = some cl)) (fun _ _ _ _ _ => True) (fun _ U o U' => ∃ v L, o = .returned v ∧ Q_rm0_5t Z ja jb kk de kd h0 n0 v U'.heap L ∧ ReturnedEndW U o U' L room_1.cells room_1.slots) := by
  refine MetFree.of_bodySF (plainFor_of_name pn_8) hisR ?_
  intro p e s m args below meth c s₁ Bd hml0 hP hK
  obtain ⟨rfl, hZ, hh, hI0, hK0⟩ := hP
  have hx := Bd.exec
  have hby := Bd.bytes
  have hml : c.maxLocals = 8 := hml0
  have hown : s.vm.findClass "com/example/sortition/sortition/SlotsAllowsPinLaw" = some m.cls := findClass_of_methodNamed Bd.named
  have hnm := (name_of_methodNamed Bd.named Bd.method).1
  have X0 : Stand p l e room_1 s m #[(.int ja), (.int jb)] below meth c s₁ [] 0 0 := Stand.of_body Bd
  have e0 : s₁.heap = h0 := by rw [← hh, Bd.state]; rfl
  have N0 := Fr.nil n0
  have hS0 := (State.WarmedH.refl s).since 0
  have pre0 : ∀ t, Steps p.tables e below (s₁.setTop (mkF m 0 #[.val (.int ja), .val (.int jb), .unset, .unset, .unset, .unset, .unset, .unset] [])) t → Steps p.tables e below (s₁.setTop (entryFrame m #[(.int ja), (.int jb)] maxLocals)) t := fun t k => castTop (ef_rm0_5t m ja jb) k
  have stp := own_pre ja jb X0 hx hZ hw hby hown
  rw [hkk] at stp
  obtain ⟨T1, h1, X1, e1, E1, A1, D1, -, st1⟩ := newO X0 hx hZ hown (ow hw 0 rfl) (ow hw 1 rfl) (ow hw 2 rfl) e0 (g := (mkF m 25 #[.val (.int ja), .val (.int jb), .val (.int kk), .val (.int (5 : Int32)), .unset, .unset, .unset, .unset] [])) rfl (hb hby at_25) (by decide) (by decide)
  obtain ⟨b1, g1⟩ : ∃ z, z = h0.size := ⟨_, rfl⟩
  rw [← g1] at A1 D1 st1
  have F1_3 : Fld Z h1 b1 "com/example/sortition/sortition/Slots" "size" "I" (.int (0 : Int32)) := D1 (Or.inr (ow hw 15 rfl)) (ty := .int) (by decide)
  obtain ⟨_, _, ⟨T2, L2, k2, n2⟩, -, X2, ⟨Lc2, hQ2, l2, y2, z2⟩, st2⟩ := X1.specialBack hx (y := (⟨"com/example/sortition/sortition/Slots", "<init>", "(I)V"⟩ : MethodName)) rfl hown (mvT hZ (ow hw 3 rfl)) (mvT hZ (ow hw 4 rfl)) (mvT hZ (ow hw 5 rfl)) (by decide) (backOf (W := 1) (rmSl l Z a0 hw [] b1 kk (.int (0 : Int32)) h1 n0 (Nat.le_trans Z0 E1.1) gkk F1_3 A1 (Nat.le_trans Z0 (Nat.le_of_eq g1.symm))) hZ (ow hw 5 rfl) (ow hw 2 rfl) (by decide) (by decide)) (g := (mkF m 30 #[.val (.int ja), .val (.int jb), .val (.int kk), .val (.int (5 : Int32)), .unset, .unset, .unset, .unset] [(.int kk), (.ref b1), (.ref b1)])) rfl (by rw [hml]; rfl) (Steps.refl _) (a := b1) (argsL := [(.int kk)]) (rest := [(.ref b1)]) (lenOf pd_8 rfl) rfl (by show 2 * 0 + _ ≤ _; exact Nat.le_of_eq rfl) (hb hby at_30) (fun _ _ => ⟨rfl, e1, (by decide : 1 + 0 ≤ _), (by decide : 1 + 0 ≤ _)⟩)
  dsimp only [Pt.U, Pt.locs, Pt.cells, Pt.slots] at X2 l2 y2 z2 st2 hQ2
  subst l2 y2 z2
  obtain ⟨rfl, Nq2, Kp2, Fq2_0, Fq2_1⟩ := hQ2
  have N2 := Fr.app N0 Nq2
  obtain ⟨T3, h3, X3, e3, E3, A3, D3, -, st3⟩ := newO X2 hx hZ hown (ow hw 16 rfl) (ow hw 17 rfl) (ow hw 18 rfl) rfl (g := (mkF m 35 #[.val (.int ja), .val (.int jb), .val (.int kk), .val (.int (5 : Int32)), .val (.ref b1), .unset, .unset, .unset] [])) rfl (hb hby at_35) (by decide) (by decide)
  obtain ⟨b3, g3⟩ : ∃ z, z = T2.heap.size := ⟨_, rfl⟩
  rw [← g3] at A3 D3 st3
  have F3_5 : Fld Z h3 b3 "com/example/sortition/sortition/Element" "index" "I" (.int (0 : Int32)) := D3 (Or.inr (ow hw 44 rfl)) (ty := .int) (by decide)
  have F3_6 : Fld Z h3 b3 "com/example/sortition/sortition/Element" "id" "Ljava/lang/String;" .null := D3 (Or.inr (ow hw 46 rfl)) (ty := (.object "java/lang/String")) (by decide)
  have F3_7 : Fld Z h3 b3 "com/example/sortition/sortition/Element" "value" "D" (.double 0) := D3 (Or.inr (ow hw 48 rfl)) (ty := .double) (by decide)
  obtain ⟨a4, T4, h4, k4, b4, kc4, X4, e4, E4, hS4, hk4, hZ4, hown4, A4, -, Fv4, V4, -, -, -, st4⟩ := ldcSV (s := s) (vm0 := s.vm) X3 hx hZ hown (ow hw 19 rfl) hwS e3 hS0 (Nat.le_trans (Nat.le_trans (Nat.le_trans (Nat.zero_le _) E1.1) Kp2.1) E3.1) (by rw [hh, ← hn0]; exact N2) hK0 (⟨#[], by simpa using hI0, fun q hq => by simp at hq⟩ : IB Z s.vm []) (by simp) hcn hcw (vs := [(.int (120 : Int32))]) (z := (1 : Int32)) ⟨by decide, by decide⟩ (by decide) rfl (g := (mkF m 40 #[.val (.int ja), .val (.int jb), .val (.int kk), .val (.int (5 : Int32)), .val (.ref b1), .unset, .unset, .unset] [(.int (0 : Int32)), (.ref b3), (.ref b3)])) rfl (hb hby at_40) (n := 4) (by decide) (by decide) (by decide) (by decide)
  have f6 : Fld Z h4 b3 "com/example/sortition/sortition/Element" "index" "I" (.int (0 : Int32)) := (F3_5.ext E4)
  have f7 : Exa Z h4 b3 "com/example/sortition/sortition/Element" := (A3.ext E4)
  have f8 : Fld Z h4 b3 "com/example/sortition/sortition/Element" "id" "Ljava/lang/String;" .null := (F3_6.ext E4)
  have f9 : Fld Z h4 b3 "com/example/sortition/sortition/Element" "value" "D" (.double 0) := (F3_7.ext E4)
  obtain ⟨_, _, ⟨T5, L5, k5, n5⟩, -, X5, hSq5, hgq5, ⟨Lc5, hQ5, l5, y5, z5⟩, st5⟩ := X4.specialBackS hx (y := (⟨"com/example/sortition/sortition/Element", "<init>", "(ILjava/lang/String;D)V"⟩ : MethodName)) rfl hown4 (mvT hZ4 (ow hw 27 rfl)) (mvT hZ4 (ow hw 28 rfl)) (mvT hZ4 (ow hw 29 rfl)) (by decide) (backOfS (W := 1) (rmEI l Z a0 hw [] b3 (0 : Int32) a4 4607182418800017408 b4 kc4 [(.int (120 : Int32))] (.int (0 : Int32)) .null (.double 0) h4 n0 (Nat.le_trans (Nat.le_trans (Nat.le_trans (Nat.le_trans Z0 E1.1) Kp2.1) E3.1) E4.1) hwS A4 Fv4 V4 (by first | assumption | decide) (by decide +kernel) (by decide +kernel) own_nn1 f6 f7 (Nat.le_trans (Nat.le_trans (Nat.le_trans Z0 E1.1) Kp2.1) (Nat.le_of_eq g3.symm)) f8 f9) hZ4 (ow hw 29 rfl) (ow hw 18 rfl) (by decide) (by decide)) (g := (mkF m 43 #[.val (.int ja), .val (.int jb), .val (.int kk), .val (.int (5 : Int32)), .val (.ref b1), .unset, .unset, .unset] [(.double 4607182418800017408), (.ref a4), (.int (0 : Int32)), (.ref b3), (.ref b3)])) rfl (by rw [hml]; rfl) (Steps.refl _) (a := b3) (argsL := [(.int (0 : Int32)), (.ref a4), (.double 4607182418800017408)]) (rest := [(.ref b3)]) (lenOf pd_9 rfl) rfl (by show 2 * 0 + _ ≤ _; exact Nat.le_of_eq rfl) (hb hby at_43) (fun _ _ => ⟨rfl, e4, (by decide : 4 + 2 ≤ _), (by decide : 12 + 12 ≤ _)⟩)
  dsimp only [Pt.U, Pt.locs, Pt.cells, Pt.slots] at X5 l5 y5 z5 st5 hQ5 hSq5 hgq5
  subst l5 y5 z5
  obtain ⟨X5, hS5, hZ5, hown5⟩ := rebS (s := s) (vm0 := T4.vm) hS4 (by rw [e4]; exact hk4) X5 hSq5 hgq5 hZ4 hown4
  obtain ⟨rfl, Nq5, Kp5, Fq5_0, Fq5_1, Fq5_2⟩ := hQ5
  have N5 := Fr.app N2 Nq5
  obtain ⟨T10, h10, X10, e10, E10, A10, D10, -, st10⟩ := newO X5 hx hZ5 hown5 (ow hw 49 rfl) (ow hw 50 rfl) (ow hw 51 rfl) rfl (g := (mkF m 48 #[.val (.int ja), .val (.int jb), .val (.int kk), .val (.int (5 : Int32)), .val (.ref b1), .val (.ref b3), .unset, .unset] [])) rfl (hb hby at_48) (by decide) (by decide)
  obtain ⟨b10, g10⟩ : ∃ z, z = T5.heap.size := ⟨_, rfl⟩
  rw [← g10] at A10 D10 st10
  have F10_12 : Fld Z h10 b10 "java/util/AbstractList" "modCount" "I" (.int (0 : Int32)) := D10 (Or.inl (ow hw 69 rfl)) (ty := .int) (by decide)
  have F10_13 : Fld Z h10 b10 "java/util/ArrayList" "elementData" "[Ljava/lang/Object;" .null := D10 (Or.inl (ow hw 72 rfl)) (ty := (.array (.object "java/lang/Object"))) (by decide)
  have F10_14 : Fld Z h10 b10 "java/util/ArrayList" "size" "I" (.int (0 : Int32)) := D10 (Or.inl (ow hw 81 rfl)) (ty := .int) (by decide)
  have f12 : Sta Z h10 "java/util/ArrayList" "DEFAULTCAPACITY_EMPTY_ELEMENTDATA" "[Ljava/lang/Object;" (.ref de) := ((Sta_keep (((Sta_keep (S_DE.ext E1) Kp2 (nsS A1.nostat ns0)).ext E3).ext E4) Kp5 (nsS f7.nostat ns0)).ext E10)
  obtain ⟨_, _, ⟨T11, L11, k11, n11⟩, -, X11, ⟨Lc11, hQ11, l11, y11, z11⟩, st11⟩ := X10.specialBack hx (y := (⟨"java/util/ArrayList", "<init>", "()V"⟩ : MethodName)) rfl hown5 (mvT hZ5 (ow hw 52 rfl)) (mvT hZ5 (ow hw 53 rfl)) (mvT hZ5 (ow hw 54 rfl)) (by decide) (backOf (W := 1) (rmAL l Z a0 hw [] b10 de (.int (0 : Int32)) .null h10 n0 (Nat.le_trans (Nat.le_trans (Nat.le_trans (Nat.le_trans (Nat.le_trans (Nat.le_trans Z0 E1.1) Kp2.1) E3.1) E4.1) Kp5.1) E10.1) A10 F10_12 F10_13 f12 F10_14 (Nat.le_trans (Nat.le_trans (Nat.le_trans (Nat.le_trans (Nat.le_trans (Nat.le_trans Z0 E1.1) Kp2.1) E3.1) E4.1) Kp5.1) (Nat.le_of_eq g10.symm))) hZ5 (ow hw 54 rfl) (ow hw 51 rfl) (by decide) (by decide)) (g := (mkF m 52 #[.val (.int ja), .val (.int jb), .val (.int kk), .val (.int (5 : Int32)), .val (.ref b1), .val (.ref b3), .unset, .unset] [(.ref b10), (.ref b10)])) rfl (by rw [hml]; rfl) (Steps.refl _) (a := b10) (argsL := []) (rest := [(.ref b10)]) (lenOf pd_0 rfl) rfl (by show 2 * 0 + _ ≤ _; exact Nat.le_of_eq rfl) (hb hby at_52) (fun _ _ => ⟨rfl, e10, (by decide : 7 + 0 ≤ _), (by decide : 27 + 0 ≤ _)⟩)
  dsimp only [Pt.U, Pt.locs, Pt.cells, Pt.slots] at X11 l11 y11 z11 st11 hQ11
  subst l11 y11 z11
  obtain ⟨rfl, Nq11, Kp11, Fq11_0, Fq11_1, Fq11_2, Fq11_3⟩ := hQ11
  have N11 := Fr.app N5 Nq11
  have f14 : Arv Z T11.heap de kd (.object "java/lang/Object") (0 : Int32) [] .null := (((((((V_de.ext E1).keep Kp2 (ninS (Nat.ne_of_lt (Nat.lt_of_lt_of_le V_de.lt (Nat.le_of_eq g1.symm))) nin0)).ext E3).ext E4).keep Kp5 (ninS (Nat.ne_of_lt (Nat.lt_of_lt_of_le ((V_de.ext E1).keep Kp2 (ninS (Nat.ne_of_lt (Nat.lt_of_lt_of_le V_de.lt (Nat.le_of_eq g1.symm))) nin0)).lt (Nat.le_of_eq g3.symm))) nin0)).ext E10).keep Kp11 (ninS (Nat.ne_of_lt (Nat.lt_of_lt_of_le (((((V_de.ext E1).keep Kp2 (ninS (Nat.ne_of_lt (Nat.lt_of_lt_of_le V_de.lt (Nat.le_of_eq g1.symm))) nin0)).ext E3).ext E4).keep Kp5 (ninS (Nat.ne_of_lt (Nat.lt_of_lt_of_le ((V_de.ext E1).keep Kp2 (ninS (Nat.ne_of_lt (Nat.lt_of_lt_of_le V_de.lt (Nat.le_of_eq g1.symm))) nin0)).lt (Nat.le_of_eq g3.symm))) nin0)).lt (Nat.le_of_eq g10.symm))) nin0))
  have f15 : Sta Z T11.heap "java/util/ArrayList" "DEFAULTCAPACITY_EMPTY_ELEMENTDATA" "[Ljava/lang/Object;" (.ref de) := (Sta_keep f12 Kp11 (nsS A10.nostat ns0))
  have f16 : Exa Z T11.heap b3 "com/example/sortition/sortition/Element" := ((Fq5_0.ext E10).keep Kp11)
  obtain ⟨cq13, kq13, q13a, q13b, q13c⟩ := isOf hZ5 rfl Fq11_0
  obtain ⟨_, _, ⟨T13, L13, k13, n13⟩, -, X13, ⟨Lc13, hQ13, l13, y13, z13⟩, st13⟩ := X11.virtualBack hx (y := (⟨"java/util/ArrayList", "add", "(Ljava/lang/Object;)Z"⟩ : MethodName)) (z := (⟨"java/util/ArrayList", "add", "(Ljava/lang/Object;)Z"⟩ : MethodName)) hown5 (mvT hZ5 (ow hw 73 rfl)) (mvT hZ5 (ow hw 74 rfl)) (notFace_of_selects (args := #[]) (mvT hZ5 (ow hw 76 rfl))) (mvT hZ5 (ow hw 76 rfl)) (mvT hZ5 (ow hw 75 rfl)) (by decide) (backOf (W := 0) (rmA0 l Z a0 hw [] b10 b3 de kd (0 : Int32) T11.heap n0 (Nat.le_trans (Nat.le_trans (Nat.le_trans (Nat.le_trans (Nat.le_trans (Nat.le_trans (Nat.le_trans Z0 E1.1) Kp2.1) E3.1) E4.1) Kp5.1) E10.1) Kp11.1) Fq11_1 Fq11_0 Fq11_2 Fq11_3 f14 f15 f16 (Nat.le_trans (Nat.le_trans (Nat.le_trans (Nat.le_trans (Nat.le_trans (Nat.le_trans Z0 E1.1) Kp2.1) E3.1) E4.1) Kp5.1) (Nat.le_of_eq g10.symm)) (Nat.ne_of_lt (Nat.lt_of_lt_of_le (((((V_de.ext E1).keep Kp2 (ninS (Nat.ne_of_lt (Nat.lt_of_lt_of_le V_de.lt (Nat.le_of_eq g1.symm))) nin0)).ext E3).ext E4).keep Kp5 (ninS (Nat.ne_of_lt (Nat.lt_of_lt_of_le ((V_de.ext E1).keep Kp2 (ninS (Nat.ne_of_lt (Nat.lt_of_lt_of_le V_de.lt (Nat.le_of_eq g1.symm))) nin0)).lt (Nat.le_of_eq g3.symm))) nin0)).lt (Nat.le_of_eq g10.symm)))) hZ5 (ow hw 77 rfl) (ow hw 51 rfl) (by decide) (by decide)) q13a q13c (g := (mkF m 65 #[.val (.int ja), .val (.int jb), .val (.int kk), .val (.int (5 : Int32)), .val (.ref b1), .val (.ref b3), .val (.ref b10), .unset] [(.ref b3), (.ref b10)])) rfl (by rw [hml]; rfl) (Steps.refl _) (argsL := [(.ref b3)]) (rest := []) (lenOf pd_11 rfl) rfl (by show 2 * 0 + _ ≤ _; exact Nat.le_of_eq rfl) (hb hby at_65) (fun _ _ => ⟨rfl, rfl, (by decide : 7 + 1 ≤ _), (by decide : 27 + 10 ≤ _)⟩)
  dsimp only [Pt.U, Pt.locs, Pt.cells, Pt.slots] at X13 l13 y13 z13 st13 hQ13
  subst l13 y13 z13
  obtain ⟨nb_13, ka_13, rfl, Nq13, gb13_0, Kp13, Fq13_0, Fq13_1, Fq13_2, Fq13_3, Fq13_4, Pq13_0⟩ := hQ13
  have N13 := Fr.app N11 Nq13
  have f18 : Exa Z T13.heap b3 "com/example/sortition/sortition/Element" := (f16.keep Kp13)
  obtain ⟨cq17, kq17, q17a, q17b, q17c⟩ := isOf hZ5 rfl Fq13_0
  obtain ⟨_, _, ⟨T17, L17, k17, n17⟩, -, X17, ⟨Lc17, hQ17, l17, y17, z17⟩, st17⟩ := X13.virtualBack hx (y := (⟨"java/util/ArrayList", "add", "(Ljava/lang/Object;)Z"⟩ : MethodName)) (z := (⟨"java/util/ArrayList", "add", "(Ljava/lang/Object;)Z"⟩ : MethodName)) hown5 (mvT hZ5 (ow hw 73 rfl)) (mvT hZ5 (ow hw 74 rfl)) (notFace_of_selects (args := #[]) (mvT hZ5 (ow hw 76 rfl))) (mvT hZ5 (ow hw 76 rfl)) (mvT hZ5 (ow hw 75 rfl)) (by decide) (backOf (W := 0) (rmA1 l Z a0 hw [] b10 b3 nb_13 ka_13 ((0 : Int32) + (1 : Int32)) T13.heap n0 (Nat.le_trans (Nat.le_trans (Nat.le_trans (Nat.le_trans (Nat.le_trans (Nat.le_trans (Nat.le_trans (Nat.le_trans Z0 E1.1) Kp2.1) E3.1) E4.1) Kp5.1) E10.1) Kp11.1) Kp13.1) Fq13_1 Fq13_0 Fq13_2 Fq13_3 Fq13_4 Pq13_0 f18 (Nat.le_trans (Nat.le_trans (Nat.le_trans (Nat.le_trans (Nat.le_trans (Nat.le_trans Z0 E1.1) Kp2.1) E3.1) E4.1) Kp5.1) (Nat.le_of_eq g10.symm)) (Ne.symm (Nat.ne_of_lt (Nat.lt_of_lt_of_le Fq11_0.lt gb13_0))) (Nat.le_trans (Nat.le_trans (Nat.le_trans (Nat.le_trans (Nat.le_trans (Nat.le_trans (Nat.le_trans (Nat.le_trans Z0 E1.1) Kp2.1) E3.1) E4.1) Kp5.1) E10.1) Kp11.1) gb13_0)) hZ5 (ow hw 77 rfl) (ow hw 51 rfl) (by decide) (by decide)) q17a q17c (g := (mkF m 78 #[.val (.int ja), .val (.int jb), .val (.int kk), .val (.int (5 : Int32)), .val (.ref b1), .val (.ref b3), .val (.ref b10), .unset] [(.ref b3), (.ref b10)])) rfl (by rw [hml]; rfl) (Steps.refl _) (argsL := [(.ref b3)]) (rest := []) (lenOf pd_11 rfl) rfl (by show 2 * 0 + _ ≤ _; exact Nat.le_of_eq rfl) (hb hby at_78) (fun _ _ => ⟨rfl, rfl, (by decide : 8 + 0 ≤ _), (by decide : 37 + 0 ≤ _)⟩)
  dsimp only [Pt.U, Pt.locs, Pt.cells, Pt.slots] at X17 l17 y17 z17 st17 hQ17
  subst l17 y17 z17
  obtain ⟨rfl, Nq17, Kp17, Fq17_0, Fq17_1, Fq17_2, Fq17_3, Fq17_4⟩ := hQ17
  have N17 := Fr.app N13 Nq17
  have f20 : Exa Z T17.heap b3 "com/example/sortition/sortition/Element" := (f18.keep Kp17)
  obtain ⟨cq19, kq19, q19a, q19b, q19c⟩ := isOf hZ5 rfl Fq17_0
  obtain ⟨_, _, ⟨T19, L19, k19, n19⟩, -, X19, ⟨Lc19, hQ19, l19, y19, z19⟩, st19⟩ := X17.virtualBack hx (y := (⟨"java/util/ArrayList", "add", "(Ljava/lang/Object;)Z"⟩ : MethodName)) (z := (⟨"java/util/ArrayList", "add", "(Ljava/lang/Object;)Z"⟩ : MethodName)) hown5 (mvT hZ5 (ow hw 73 rfl)) (mvT hZ5 (ow hw 74 rfl)) (notFace_of_selects (args := #[]) (mvT hZ5 (ow hw 76 rfl))) (mvT hZ5 (ow hw 76 rfl)) (mvT hZ5 (ow hw 75 rfl)) (by decide) (backOf (W := 0) (rmA2 l Z a0 hw [] b10 b3 nb_13 ka_13 (((0 : Int32) + (1 : Int32)) + (1 : Int32)) T17.heap n0 (Nat.le_trans (Nat.le_trans (Nat.le_trans (Nat.le_trans (Nat.le_trans (Nat.le_trans (Nat.le_trans (Nat.le_trans (Nat.le_trans Z0 E1.1) Kp2.1) E3.1) E4.1) Kp5.1) E10.1) Kp11.1) Kp13.1) Kp17.1) Fq17_1 Fq17_0 Fq17_2 Fq17_3 Fq17_4 Pq13_0 f20 (Nat.le_trans (Nat.le_trans (Nat.le_trans (Nat.le_trans (Nat.le_trans (Nat.le_trans Z0 E1.1) Kp2.1) E3.1) E4.1) Kp5.1) (Nat.le_of_eq g10.symm)) (Ne.symm (Nat.ne_of_lt (Nat.lt_of_lt_of_le Fq11_0.lt gb13_0))) (Nat.le_trans (Nat.le_trans (Nat.le_trans (Nat.le_trans (Nat.le_trans (Nat.le_trans (Nat.le_trans (Nat.le_trans Z0 E1.1) Kp2.1) E3.1) E4.1) Kp5.1) E10.1) Kp11.1) gb13_0)) hZ5 (ow hw 77 rfl) (ow hw 51 rfl) (by decide) (by decide)) q19a q19c (g := (mkF m 91 #[.val (.int ja), .val (.int jb), .val (.int kk), .val (.int (5 : Int32)), .val (.ref b1), .val (.ref b3), .val (.ref b10), .unset] [(.ref b3), (.ref b10)])) rfl (by rw [hml]; rfl) (Steps.refl _) (argsL := [(.ref b3)]) (rest := []) (lenOf pd_11 rfl) rfl (by show 2 * 0 + _ ≤ _; exact Nat.le_of_eq rfl) (hb hby at_91) (fun _ _ => ⟨rfl, rfl, (by decide : 8 + 0 ≤ _), (by decide : 37 + 0 ≤ _)⟩)
  dsimp only [Pt.U, Pt.locs, Pt.cells, Pt.slots] at X19 l19 y19 z19 st19 hQ19
  subst l19 y19 z19
  obtain ⟨rfl, Nq19, Kp19, Fq19_0, Fq19_1, Fq19_2, Fq19_3, Fq19_4⟩ := hQ19
  have N19 := Fr.app N17 Nq19
  have f22 : Exa Z T19.heap b3 "com/example/sortition/sortition/Element" := (f20.keep Kp19)
  obtain ⟨cq21, kq21, q21a, q21b, q21c⟩ := isOf hZ5 rfl Fq19_0
  obtain ⟨_, _, ⟨T21, L21, k21, n21⟩, -, X21, ⟨Lc21, hQ21, l21, y21, z21⟩, st21⟩ := X19.virtualBack hx (y := (⟨"java/util/ArrayList", "add", "(Ljava/lang/Object;)Z"⟩ : MethodName)) (z := (⟨"java/util/ArrayList", "add", "(Ljava/lang/Object;)Z"⟩ : MethodName)) hown5 (mvT hZ5 (ow hw 73 rfl)) (mvT hZ5 (ow hw 74 rfl)) (notFace_of_selects (args := #[]) (mvT hZ5 (ow hw 76 rfl))) (mvT hZ5 (ow hw 76 rfl)) (mvT hZ5 (ow hw 75 rfl)) (by decide) (backOf (W := 0) (rmA3 l Z a0 hw [] b10 b3 nb_13 ka_13 ((((0 : Int32) + (1 : Int32)) + (1 : Int32)) + (1 : Int32)) T19.heap n0 (Nat.le_trans (Nat.le_trans (Nat.le_trans (Nat.le_trans (Nat.le_trans (Nat.le_trans (Nat.le_trans (Nat.le_trans (Nat.le_trans (Nat.le_trans Z0 E1.1) Kp2.1) E3.1) E4.1) Kp5.1) E10.1) Kp11.1) Kp13.1) Kp17.1) Kp19.1) Fq19_1 Fq19_0 Fq19_2 Fq19_3 Fq19_4 Pq13_0 f22 (Nat.le_trans (Nat.le_trans (Nat.le_trans (Nat.le_trans (Nat.le_trans (Nat.le_trans Z0 E1.1) Kp2.1) E3.1) E4.1) Kp5.1) (Nat.le_of_eq g10.symm)) (Ne.symm (Nat.ne_of_lt (Nat.lt_of_lt_of_le Fq11_0.lt gb13_0))) (Nat.le_trans (Nat.le_trans (Nat.le_trans (Nat.le_trans (Nat.le_trans (Nat.le_trans (Nat.le_trans (Nat.le_trans Z0 E1.1) Kp2.1) E3.1) E4.1) Kp5.1) E10.1) Kp11.1) gb13_0)) hZ5 (ow hw 77 rfl) (ow hw 51 rfl) (by decide) (by decide)) q21a q21c (g := (mkF m 104 #[.val (.int ja), .val (.int jb), .val (.int kk), .val (.int (5 : Int32)), .val (.ref b1), .val (.ref b3), .val (.ref b10), .unset] [(.ref b3), (.ref b10)])) rfl (by rw [hml]; rfl) (Steps.refl _) (argsL := [(.ref b3)]) (rest := []) (lenOf pd_11 rfl) rfl (by show 2 * 0 + _ ≤ _; exact Nat.le_of_eq rfl) (hb hby at_104) (fun _ _ => ⟨rfl, rfl, (by decide : 8 + 0 ≤ _), (by decide : 37 + 0 ≤ _)⟩)
  dsimp only [Pt.U, Pt.locs, Pt.cells, Pt.slots] at X21 l21 y21 z21 st21 hQ21
  subst l21 y21 z21
  obtain ⟨rfl, Nq21, Kp21, Fq21_0, Fq21_1, Fq21_2, Fq21_3, Fq21_4⟩ := hQ21
  have N21 := Fr.app N19 Nq21
  have f24 : Exa Z T21.heap b3 "com/example/sortition/sortition/Element" := (f22.keep Kp21)
  obtain ⟨cq23, kq23, q23a, q23b, q23c⟩ := isOf hZ5 rfl Fq21_0
  obtain ⟨_, _, ⟨T23, L23, k23, n23⟩, -, X23, ⟨Lc23, hQ23, l23, y23, z23⟩, st23⟩ := X21.virtualBack hx (y := (⟨"java/util/ArrayList", "add", "(Ljava/lang/Object;)Z"⟩ : MethodName)) (z := (⟨"java/util/ArrayList", "add", "(Ljava/lang/Object;)Z"⟩ : MethodName)) hown5 (mvT hZ5 (ow hw 73 rfl)) (mvT hZ5 (ow hw 74 rfl)) (notFace_of_selects (args := #[]) (mvT hZ5 (ow hw 76 rfl))) (mvT hZ5 (ow hw 76 rfl)) (mvT hZ5 (ow hw 75 rfl)) (by decide) (backOf (W := 0) (rmA4 l Z a0 hw [] b10 b3 nb_13 ka_13 (((((0 : Int32) + (1 : Int32)) + (1 : Int32)) + (1 : Int32)) + (1 : Int32)) T21.heap n0 (Nat.le_trans (Nat.le_trans (Nat.le_trans (Nat.le_trans (Nat.le_trans (Nat.le_trans (Nat.le_trans (Nat.le_trans (Nat.le_trans (Nat.le_trans (Nat.le_trans Z0 E1.1) Kp2.1) E3.1) E4.1) Kp5.1) E10.1) Kp11.1) Kp13.1) Kp17.1) Kp19.1) Kp21.1) Fq21_1 Fq21_0 Fq21_2 Fq21_3 Fq21_4 Pq13_0 f24 (Nat.le_trans (Nat.le_trans (Nat.le_trans (Nat.le_trans (Nat.le_trans (Nat.le_trans Z0 E1.1) Kp2.1) E3.1) E4.1) Kp5.1) (Nat.le_of_eq g10.symm)) (Ne.symm (Nat.ne_of_lt (Nat.lt_of_lt_of_le Fq11_0.lt gb13_0))) (Nat.le_trans (Nat.le_trans (Nat.le_trans (Nat.le_trans (Nat.le_trans (Nat.le_trans (Nat.le_trans (Nat.le_trans Z0 E1.1) Kp2.1) E3.1) E4.1) Kp5.1) E10.1) Kp11.1) gb13_0)) hZ5 (ow hw 77 rfl) (ow hw 51 rfl) (by decide) (by decide)) q23a q23c (g := (mkF m 117 #[.val (.int ja), .val (.int jb), .val (.int kk), .val (.int (5 : Int32)), .val (.ref b1), .val (.ref b3), .val (.ref b10), .unset] [(.ref b3), (.ref b10)])) rfl (by rw [hml]; rfl) (Steps.refl _) (argsL := [(.ref b3)]) (rest := []) (lenOf pd_11 rfl) rfl (by show 2 * 0 + _ ≤ _; exact Nat.le_of_eq rfl) (hb hby at_117) (fun _ _ => ⟨rfl, rfl, (by decide : 8 + 0 ≤ _), (by decide : 37 + 0 ≤ _)⟩)
  dsimp only [Pt.U, Pt.locs, Pt.cells, Pt.slots] at X23 l23 y23 z23 st23 hQ23
  subst l23 y23 z23
  obtain ⟨rfl, Nq23, Kp23, Fq23_0, Fq23_1, Fq23_2, Fq23_3, Fq23_4⟩ := hQ23
  have N23 := Fr.app N21 Nq23
  have f26 : Fld Z T23.heap b1 "com/example/sortition/sortition/Slots" "size" "I" (.int kk) := ((((((((((Fq2_1.ext E3).ext E4).keep Kp5 (ninS (Nat.ne_of_lt (Nat.lt_of_lt_of_le Fq2_0.lt (Nat.le_of_eq g3.symm))) nin0)).ext E10).keep Kp11 (ninS (Nat.ne_of_lt (Nat.lt_of_lt_of_le (((Fq2_0.ext E3).ext E4).keep Kp5).lt (Nat.le_of_eq g10.symm))) nin0)).keep Kp13 (ninS (Nat.ne_of_lt (Nat.lt_of_lt_of_le (((Fq2_0.ext E3).ext E4).keep Kp5).lt (Nat.le_of_eq g10.symm))) nin0)).keep Kp17 (ninS (Nat.ne_of_lt (Nat.lt_of_lt_of_le (((Fq2_0.ext E3).ext E4).keep Kp5).lt (Nat.le_of_eq g10.symm))) (ninS (Nat.ne_of_lt (Nat.lt_of_lt_of_le (((((Fq2_0.ext E3).ext E4).keep Kp5).ext E10).keep Kp11).lt gb13_0)) nin0))).keep Kp19 (ninS (Nat.ne_of_lt (Nat.lt_of_lt_of_le (((Fq2_0.ext E3).ext E4).keep Kp5).lt (Nat.le_of_eq g10.symm))) (ninS (Nat.ne_of_lt (Nat.lt_of_lt_of_le (((((Fq2_0.ext E3).ext E4).keep Kp5).ext E10).keep Kp11).lt gb13_0)) nin0))).keep Kp21 (ninS (Nat.ne_of_lt (Nat.lt_of_lt_of_le (((Fq2_0.ext E3).ext E4).keep Kp5).lt (Nat.le_of_eq g10.symm))) (ninS (Nat.ne_of_lt (Nat.lt_of_lt_of_le (((((Fq2_0.ext E3).ext E4).keep Kp5).ext E10).keep Kp11).lt gb13_0)) nin0))).keep Kp23 (ninS (Nat.ne_of_lt (Nat.lt_of_lt_of_le (((Fq2_0.ext E3).ext E4).keep Kp5).lt (Nat.le_of_eq g10.symm))) (ninS (Nat.ne_of_lt (Nat.lt_of_lt_of_le (((((Fq2_0.ext E3).ext E4).keep Kp5).ext E10).keep Kp11).lt gb13_0)) nin0)))
  have f27 : Exa Z T23.heap b1 "com/example/sortition/sortition/Slots" := ((((((((((Fq2_0.ext E3).ext E4).keep Kp5).ext E10).keep Kp11).keep Kp13).keep Kp17).keep Kp19).keep Kp21).keep Kp23)
  obtain ⟨cq25, kq25, q25a, q25b, q25c⟩ := isOf hZ5 rfl f27
  obtain ⟨_, _, ⟨T25, L25, k25, n25⟩, -, X25, ⟨Lc25, hQ25, l25, y25, z25⟩, st25⟩ := X23.virtualBack hx (y := (⟨"com/example/sortition/sortition/Slots", "allows", "(Ljava/util/List;)Z"⟩ : MethodName)) (z := (⟨"com/example/sortition/sortition/Slots", "allows", "(Ljava/util/List;)Z"⟩ : MethodName)) hown5 (mvT hZ5 (ow hw 104 rfl)) (mvT hZ5 (ow hw 105 rfl)) (notFace_of_selects (args := #[]) (mvT hZ5 (ow hw 107 rfl))) (mvT hZ5 (ow hw 107 rfl)) (mvT hZ5 (ow hw 106 rfl)) (by decide) (backOf (W := 0) (rmAW_t l Z a0 hw [] b1 b10 (5 : Int32) kk T23.heap n0 (Nat.le_trans (Nat.le_trans (Nat.le_trans (Nat.le_trans (Nat.le_trans (Nat.le_trans (Nat.le_trans (Nat.le_trans (Nat.le_trans (Nat.le_trans (Nat.le_trans (Nat.le_trans Z0 E1.1) Kp2.1) E3.1) E4.1) Kp5.1) E10.1) Kp11.1) Kp13.1) Kp17.1) Kp19.1) Kp21.1) Kp23.1) Fq23_0 Fq23_3 f26 hrd) hZ5 (ow hw 108 rfl) (ow hw 2 rfl) (by decide) (by decide)) q25a q25c (g := (mkF m 164 #[.val (.int ja), .val (.int jb), .val (.int kk), .val (.int (5 : Int32)), .val (.ref b1), .val (.ref b3), .val (.ref b10), .val (.int (0 : Int32))] [(.ref b10), (.ref b1)])) rfl (by rw [hml]; rfl) (Steps.refl _) (argsL := [(.ref b10)]) (rest := []) (lenOf pd_10 rfl) rfl (by show 2 * 0 + _ ≤ _; exact Nat.le_of_eq rfl) (hb hby at_164) (fun _ _ => ⟨rfl, rfl, (by decide : 8 + 0 ≤ _), (by decide : 37 + 0 ≤ _)⟩)
  dsimp only [Pt.U, Pt.locs, Pt.cells, Pt.slots] at X25 l25 y25 z25 st25 hQ25
  subst l25 y25 z25
  obtain ⟨rfl, Nq25, e25⟩ := hQ25
  have N25 := Fr.app N23 Nq25
  obtain ⟨fs, hr, hrun, hended, hRW⟩ := X25.leaveW (s := s) hS5 (by rw [e25]; exact (Nat.le_trans (Nat.le_trans (Nat.le_trans (Nat.le_trans (Nat.le_trans (Nat.le_trans (Nat.le_trans (Nat.le_refl _) E10.1) Kp11.1) Kp13.1) Kp17.1) Kp19.1) Kp21.1) Kp23.1)) (v := some (.int (1 : Int32))) (fun h => by rw [Bd.returns] at h; cases h)
  refine ⟨_, _, pre0 _ ?_, hrun, hended, _, _, rfl, ?_, hRW.1, hRW.2.1, hRW.2.2.1, hRW.2.2.2.mono (by decide) (by decide)⟩
  · show Steps p.tables e below (s₁.setTop (mkF m 0 #[.val (.int ja), .val (.int jb), .unset, .unset, .unset, .unset, .unset, .unset] [])) _
    refine stp _ ?_
    show Steps p.tables e below (s₁.setTop (mkF m 20 #[.val (.int ja), .val (.int jb), .val (.int kk), .unset, .unset, .unset, .unset, .unset] [])) _
    refine XS.iloadN X0.here hx rfl (hb hby at_20) rfl ?_
    show Steps p.tables e below (s₁.setTop (mkF m 21 #[.val (.int ja), .val (.int jb), .val (.int kk), .unset, .unset, .unset, .unset, .unset] [(.int jb)])) _
    refine XS.bipush X0.here hx rfl (hb hby at_21) ?_
    show Steps p.tables e below (s₁.setTop (mkF m 23 #[.val (.int ja), .val (.int jb), .val (.int kk), .unset, .unset, .unset, .unset, .unset] [(.int (7 : Int32)), (.int jb)])) _
    refine XS.iand X0.here hx rfl (hb hby at_23) rfl ?_
    show Steps p.tables e below (s₁.setTop (mkF m 24 #[.val (.int ja), .val (.int jb), .val (.int kk), .unset, .unset, .unset, .unset, .unset] [(.int (jb &&& (7 : Int32)))])) _
    rw [hn]
    show Steps p.tables e below (s₁.setTop (mkF m 24 #[.val (.int ja), .val (.int jb), .val (.int kk), .unset, .unset, .unset, .unset, .unset] [(.int (5 : Int32))])) _
    refine XS.istoreN X0.here hx rfl (hb hby at_24) rfl (l' := #[.val (.int ja), .val (.int jb), .val (.int kk), .val (.int (5 : Int32)), .unset, .unset, .unset, .unset]) rfl ?_
    show Steps p.tables e below (s₁.setTop (mkF m 25 #[.val (.int ja), .val (.int jb), .val (.int kk), .val (.int (5 : Int32)), .unset, .unset, .unset, .unset] [])) _
    refine st1 _ ?_
    show Steps p.tables e below (T1.setTop (mkF m 28 #[.val (.int ja), .val (.int jb), .val (.int kk), .val (.int (5 : Int32)), .unset, .unset, .unset, .unset] [(.ref b1)])) _
    refine XS.dup X1.here hx rfl (hb hby at_28) rfl rfl ?_
    show Steps p.tables e below (T1.setTop (mkF m 29 #[.val (.int ja), .val (.int jb), .val (.int kk), .val (.int (5 : Int32)), .unset, .unset, .unset, .unset] [(.ref b1), (.ref b1)])) _
    refine XS.iloadN X1.here hx rfl (hb hby at_29) rfl ?_
    show Steps p.tables e below (T1.setTop (mkF m 30 #[.val (.int ja), .val (.int jb), .val (.int kk), .val (.int (5 : Int32)), .unset, .unset, .unset, .unset] [(.int kk), (.ref b1), (.ref b1)])) _
    refine st2.trans ?_
    show Steps p.tables e below (T2.setTop (mkF m 33 #[.val (.int ja), .val (.int jb), .val (.int kk), .val (.int (5 : Int32)), .unset, .unset, .unset, .unset] [(.ref b1)])) _
    refine XS.astore X2.here hx rfl (hb hby at_33) rfl rfl (l' := #[.val (.int ja), .val (.int jb), .val (.int kk), .val (.int (5 : Int32)), .val (.ref b1), .unset, .unset, .unset]) rfl ?_
    show Steps p.tables e below (T2.setTop (mkF m 35 #[.val (.int ja), .val (.int jb), .val (.int kk), .val (.int (5 : Int32)), .val (.ref b1), .unset, .unset, .unset] [])) _
    refine st3 _ ?_
    show Steps p.tables e below (T3.setTop (mkF m 38 #[.val (.int ja), .val (.int jb), .val (.int kk), .val (.int (5 : Int32)), .val (.ref b1), .unset, .unset, .unset] [(.ref b3)])) _
    refine XS.dup X3.here hx rfl (hb hby at_38) rfl rfl ?_
    show Steps p.tables e below (T3.setTop (mkF m 39 #[.val (.int ja), .val (.int jb), .val (.int kk), .val (.int (5 : Int32)), .val (.ref b1), .unset, .unset, .unset] [(.ref b3), (.ref b3)])) _
    refine XS.iconst X3.here hx rfl (hb hby at_39) ?_
    show Steps p.tables e below (T3.setTop (mkF m 40 #[.val (.int ja), .val (.int jb), .val (.int kk), .val (.int (5 : Int32)), .val (.ref b1), .unset, .unset, .unset] [(.int (0 : Int32)), (.ref b3), (.ref b3)])) _
    refine st4 _ ?_
    show Steps p.tables e below (T4.setTop (mkF m 42 #[.val (.int ja), .val (.int jb), .val (.int kk), .val (.int (5 : Int32)), .val (.ref b1), .unset, .unset, .unset] [(.ref a4), (.int (0 : Int32)), (.ref b3), (.ref b3)])) _
    refine XS.dconst1 X4.here hx rfl (hb hby at_42) (v := 4607182418800017408) rfl ?_
    show Steps p.tables e below (T4.setTop (mkF m 43 #[.val (.int ja), .val (.int jb), .val (.int kk), .val (.int (5 : Int32)), .val (.ref b1), .unset, .unset, .unset] [(.double 4607182418800017408), (.ref a4), (.int (0 : Int32)), (.ref b3), (.ref b3)])) _
    refine st5.trans ?_
    show Steps p.tables e below (T5.setTop (mkF m 46 #[.val (.int ja), .val (.int jb), .val (.int kk), .val (.int (5 : Int32)), .val (.ref b1), .unset, .unset, .unset] [(.ref b3)])) _
    refine XS.astore X5.here hx rfl (hb hby at_46) rfl rfl (l' := #[.val (.int ja), .val (.int jb), .val (.int kk), .val (.int (5 : Int32)), .val (.ref b1), .val (.ref b3), .unset, .unset]) rfl ?_
    show Steps p.tables e below (T5.setTop (mkF m 48 #[.val (.int ja), .val (.int jb), .val (.int kk), .val (.int (5 : Int32)), .val (.ref b1), .val (.ref b3), .unset, .unset] [])) _
    refine st10 _ ?_
    show Steps p.tables e below (T10.setTop (mkF m 51 #[.val (.int ja), .val (.int jb), .val (.int kk), .val (.int (5 : Int32)), .val (.ref b1), .val (.ref b3), .unset, .unset] [(.ref b10)])) _
    refine XS.dup X10.here hx rfl (hb hby at_51) rfl rfl ?_
    show Steps p.tables e below (T10.setTop (mkF m 52 #[.val (.int ja), .val (.int jb), .val (.int kk), .val (.int (5 : Int32)), .val (.ref b1), .val (.ref b3), .unset, .unset] [(.ref b10), (.ref b10)])) _
    refine st11.trans ?_
    show Steps p.tables e below (T11.setTop (mkF m 55 #[.val (.int ja), .val (.int jb), .val (.int kk), .val (.int (5 : Int32)), .val (.ref b1), .val (.ref b3), .unset, .unset] [(.ref b10)])) _
    refine XS.astore X11.here hx rfl (hb hby at_55) rfl rfl (l' := #[.val (.int ja), .val (.int jb), .val (.int kk), .val (.int (5 : Int32)), .val (.ref b1), .val (.ref b3), .val (.ref b10), .unset]) rfl ?_
    show Steps p.tables e below (T11.setTop (mkF m 57 #[.val (.int ja), .val (.int jb), .val (.int kk), .val (.int (5 : Int32)), .val (.ref b1), .val (.ref b3), .val (.ref b10), .unset] [])) _
    refine XS.iloadN X11.here hx rfl (hb hby at_57) rfl ?_
    show Steps p.tables e below (T11.setTop (mkF m 58 #[.val (.int ja), .val (.int jb), .val (.int kk), .val (.int (5 : Int32)), .val (.ref b1), .val (.ref b3), .val (.ref b10), .unset] [(.int (5 : Int32))])) _
    refine XS.ifNo X11.here hx rfl (hb hby at_58) rfl ((if0 _ _).trans (tlt (by decide : (0 : Int32) < (5 : Int32))).2.2.2) ?_
    show Steps p.tables e below (T11.setTop (mkF m 61 #[.val (.int ja), .val (.int jb), .val (.int kk), .val (.int (5 : Int32)), .val (.ref b1), .val (.ref b3), .val (.ref b10), .unset] [])) _
    refine XS.aload X11.here hx rfl (hb hby at_61) rfl rfl ?_
    show Steps p.tables e below (T11.setTop (mkF m 63 #[.val (.int ja), .val (.int jb), .val (.int kk), .val (.int (5 : Int32)), .val (.ref b1), .val (.ref b3), .val (.ref b10), .unset] [(.ref b10)])) _
    refine XS.aload X11.here hx rfl (hb hby at_63) rfl rfl ?_
    show Steps p.tables e below (T11.setTop (mkF m 65 #[.val (.int ja), .val (.int jb), .val (.int kk), .val (.int (5 : Int32)), .val (.ref b1), .val (.ref b3), .val (.ref b10), .unset] [(.ref b3), (.ref b10)])) _
    refine st13.trans ?_
    show Steps p.tables e below (T13.setTop (mkF m 68 #[.val (.int ja), .val (.int jb), .val (.int kk), .val (.int (5 : Int32)), .val (.ref b1), .val (.ref b3), .val (.ref b10), .unset] [(.int (1 : Int32))])) _
    refine XS.pop X13.here hx rfl (hb hby at_68) rfl rfl ?_
    show Steps p.tables e below (T13.setTop (mkF m 69 #[.val (.int ja), .val (.int jb), .val (.int kk), .val (.int (5 : Int32)), .val (.ref b1), .val (.ref b3), .val (.ref b10), .unset] [])) _
    refine XS.iloadN X13.here hx rfl (hb hby at_69) rfl ?_
    show Steps p.tables e below (T13.setTop (mkF m 70 #[.val (.int ja), .val (.int jb), .val (.int kk), .val (.int (5 : Int32)), .val (.ref b1), .val (.ref b3), .val (.ref b10), .unset] [(.int (5 : Int32))])) _
    refine XS.iconst X13.here hx rfl (hb hby at_70) ?_
    show Steps p.tables e below (T13.setTop (mkF m 71 #[.val (.int ja), .val (.int jb), .val (.int kk), .val (.int (5 : Int32)), .val (.ref b1), .val (.ref b3), .val (.ref b10), .unset] [(.int (1 : Int32)), (.int (5 : Int32))])) _
    refine XS.icmpNo X13.here hx rfl (hb hby at_71) rfl (tlt (by decide : (1 : Int32) < (5 : Int32))).2.2.2 ?_
    show Steps p.tables e below (T13.setTop (mkF m 74 #[.val (.int ja), .val (.int jb), .val (.int kk), .val (.int (5 : Int32)), .val (.ref b1), .val (.ref b3), .val (.ref b10), .unset] [])) _
    refine XS.aload X13.here hx rfl (hb hby at_74) rfl rfl ?_
    show Steps p.tables e below (T13.setTop (mkF m 76 #[.val (.int ja), .val (.int jb), .val (.int kk), .val (.int (5 : Int32)), .val (.ref b1), .val (.ref b3), .val (.ref b10), .unset] [(.ref b10)])) _
    refine XS.aload X13.here hx rfl (hb hby at_76) rfl rfl ?_
    show Steps p.tables e below (T13.setTop (mkF m 78 #[.val (.int ja), .val (.int jb), .val (.int kk), .val (.int (5 : Int32)), .val (.ref b1), .val (.ref b3), .val (.ref b10), .unset] [(.ref b3), (.ref b10)])) _
    refine st17.trans ?_
    show Steps p.tables e below (T17.setTop (mkF m 81 #[.val (.int ja), .val (.int jb), .val (.int kk), .val (.int (5 : Int32)), .val (.ref b1), .val (.ref b3), .val (.ref b10), .unset] [(.int (1 : Int32))])) _
    refine XS.pop X17.here hx rfl (hb hby at_81) rfl rfl ?_
    show Steps p.tables e below (T17.setTop (mkF m 82 #[.val (.int ja), .val (.int jb), .val (.int kk), .val (.int (5 : Int32)), .val (.ref b1), .val (.ref b3), .val (.ref b10), .unset] [])) _
    refine XS.iloadN X17.here hx rfl (hb hby at_82) rfl ?_
    show Steps p.tables e below (T17.setTop (mkF m 83 #[.val (.int ja), .val (.int jb), .val (.int kk), .val (.int (5 : Int32)), .val (.ref b1), .val (.ref b3), .val (.ref b10), .unset] [(.int (5 : Int32))])) _
    refine XS.iconst X17.here hx rfl (hb hby at_83) ?_
    show Steps p.tables e below (T17.setTop (mkF m 84 #[.val (.int ja), .val (.int jb), .val (.int kk), .val (.int (5 : Int32)), .val (.ref b1), .val (.ref b3), .val (.ref b10), .unset] [(.int (2 : Int32)), (.int (5 : Int32))])) _
    refine XS.icmpNo X17.here hx rfl (hb hby at_84) rfl (tlt (by decide : (2 : Int32) < (5 : Int32))).2.2.2 ?_
    show Steps p.tables e below (T17.setTop (mkF m 87 #[.val (.int ja), .val (.int jb), .val (.int kk), .val (.int (5 : Int32)), .val (.ref b1), .val (.ref b3), .val (.ref b10), .unset] [])) _
    refine XS.aload X17.here hx rfl (hb hby at_87) rfl rfl ?_
    show Steps p.tables e below (T17.setTop (mkF m 89 #[.val (.int ja), .val (.int jb), .val (.int kk), .val (.int (5 : Int32)), .val (.ref b1), .val (.ref b3), .val (.ref b10), .unset] [(.ref b10)])) _
    refine XS.aload X17.here hx rfl (hb hby at_89) rfl rfl ?_
    show Steps p.tables e below (T17.setTop (mkF m 91 #[.val (.int ja), .val (.int jb), .val (.int kk), .val (.int (5 : Int32)), .val (.ref b1), .val (.ref b3), .val (.ref b10), .unset] [(.ref b3), (.ref b10)])) _
    refine st19.trans ?_
    show Steps p.tables e below (T19.setTop (mkF m 94 #[.val (.int ja), .val (.int jb), .val (.int kk), .val (.int (5 : Int32)), .val (.ref b1), .val (.ref b3), .val (.ref b10), .unset] [(.int (1 : Int32))])) _
    refine XS.pop X19.here hx rfl (hb hby at_94) rfl rfl ?_
    show Steps p.tables e below (T19.setTop (mkF m 95 #[.val (.int ja), .val (.int jb), .val (.int kk), .val (.int (5 : Int32)), .val (.ref b1), .val (.ref b3), .val (.ref b10), .unset] [])) _
    refine XS.iloadN X19.here hx rfl (hb hby at_95) rfl ?_
    show Steps p.tables e below (T19.setTop (mkF m 96 #[.val (.int ja), .val (.int jb), .val (.int kk), .val (.int (5 : Int32)), .val (.ref b1), .val (.ref b3), .val (.ref b10), .unset] [(.int (5 : Int32))])) _
    refine XS.iconst X19.here hx rfl (hb hby at_96) ?_
    show Steps p.tables e below (T19.setTop (mkF m 97 #[.val (.int ja), .val (.int jb), .val (.int kk), .val (.int (5 : Int32)), .val (.ref b1), .val (.ref b3), .val (.ref b10), .unset] [(.int (3 : Int32)), (.int (5 : Int32))])) _
    refine XS.icmpNo X19.here hx rfl (hb hby at_97) rfl (tlt (by decide : (3 : Int32) < (5 : Int32))).2.2.2 ?_
    show Steps p.tables e below (T19.setTop (mkF m 100 #[.val (.int ja), .val (.int jb), .val (.int kk), .val (.int (5 : Int32)), .val (.ref b1), .val (.ref b3), .val (.ref b10), .unset] [])) _
    refine XS.aload X19.here hx rfl (hb hby at_100) rfl rfl ?_
    show Steps p.tables e below (T19.setTop (mkF m 102 #[.val (.int ja), .val (.int jb), .val (.int kk), .val (.int (5 : Int32)), .val (.ref b1), .val (.ref b3), .val (.ref b10), .unset] [(.ref b10)])) _
    refine XS.aload X19.here hx rfl (hb hby at_102) rfl rfl ?_
    show Steps p.tables e below (T19.setTop (mkF m 104 #[.val (.int ja), .val (.int jb), .val (.int kk), .val (.int (5 : Int32)), .val (.ref b1), .val (.ref b3), .val (.ref b10), .unset] [(.ref b3), (.ref b10)])) _
    refine st21.trans ?_
    show Steps p.tables e below (T21.setTop (mkF m 107 #[.val (.int ja), .val (.int jb), .val (.int kk), .val (.int (5 : Int32)), .val (.ref b1), .val (.ref b3), .val (.ref b10), .unset] [(.int (1 : Int32))])) _
    refine XS.pop X21.here hx rfl (hb hby at_107) rfl rfl ?_
    show Steps p.tables e below (T21.setTop (mkF m 108 #[.val (.int ja), .val (.int jb), .val (.int kk), .val (.int (5 : Int32)), .val (.ref b1), .val (.ref b3), .val (.ref b10), .unset] [])) _
    refine XS.iloadN X21.here hx rfl (hb hby at_108) rfl ?_
    show Steps p.tables e below (T21.setTop (mkF m 109 #[.val (.int ja), .val (.int jb), .val (.int kk), .val (.int (5 : Int32)), .val (.ref b1), .val (.ref b3), .val (.ref b10), .unset] [(.int (5 : Int32))])) _
    refine XS.iconst X21.here hx rfl (hb hby at_109) ?_
    show Steps p.tables e below (T21.setTop (mkF m 110 #[.val (.int ja), .val (.int jb), .val (.int kk), .val (.int (5 : Int32)), .val (.ref b1), .val (.ref b3), .val (.ref b10), .unset] [(.int (4 : Int32)), (.int (5 : Int32))])) _
    refine XS.icmpNo X21.here hx rfl (hb hby at_110) rfl (tlt (by decide : (4 : Int32) < (5 : Int32))).2.2.2 ?_
    show Steps p.tables e below (T21.setTop (mkF m 113 #[.val (.int ja), .val (.int jb), .val (.int kk), .val (.int (5 : Int32)), .val (.ref b1), .val (.ref b3), .val (.ref b10), .unset] [])) _
    refine XS.aload X21.here hx rfl (hb hby at_113) rfl rfl ?_
    show Steps p.tables e below (T21.setTop (mkF m 115 #[.val (.int ja), .val (.int jb), .val (.int kk), .val (.int (5 : Int32)), .val (.ref b1), .val (.ref b3), .val (.ref b10), .unset] [(.ref b10)])) _
    refine XS.aload X21.here hx rfl (hb hby at_115) rfl rfl ?_
    show Steps p.tables e below (T21.setTop (mkF m 117 #[.val (.int ja), .val (.int jb), .val (.int kk), .val (.int (5 : Int32)), .val (.ref b1), .val (.ref b3), .val (.ref b10), .unset] [(.ref b3), (.ref b10)])) _
    refine st23.trans ?_
    show Steps p.tables e below (T23.setTop (mkF m 120 #[.val (.int ja), .val (.int jb), .val (.int kk), .val (.int (5 : Int32)), .val (.ref b1), .val (.ref b3), .val (.ref b10), .unset] [(.int (1 : Int32))])) _
    refine XS.pop X23.here hx rfl (hb hby at_120) rfl rfl ?_
    show Steps p.tables e below (T23.setTop (mkF m 121 #[.val (.int ja), .val (.int jb), .val (.int kk), .val (.int (5 : Int32)), .val (.ref b1), .val (.ref b3), .val (.ref b10), .unset] [])) _
    refine XS.iloadN X23.here hx rfl (hb hby at_121) rfl ?_
    show Steps p.tables e below (T23.setTop (mkF m 122 #[.val (.int ja), .val (.int jb), .val (.int kk), .val (.int (5 : Int32)), .val (.ref b1), .val (.ref b3), .val (.ref b10), .unset] [(.int (5 : Int32))])) _
    refine XS.iconst X23.here hx rfl (hb hby at_122) ?_
    show Steps p.tables e below (T23.setTop (mkF m 123 #[.val (.int ja), .val (.int jb), .val (.int kk), .val (.int (5 : Int32)), .val (.ref b1), .val (.ref b3), .val (.ref b10), .unset] [(.int (5 : Int32)), (.int (5 : Int32))])) _
    refine XS.icmpYes X23.here hx rfl (pc0 := 123) (pc' := 134) rfl (hb hby at_123) rfl (flt (by decide : ¬ ((5 : Int32) < (5 : Int32)))).2.2.2 (by decide) (by decide) ?_
    show Steps p.tables e below (T23.setTop (mkF m 134 #[.val (.int ja), .val (.int jb), .val (.int kk), .val (.int (5 : Int32)), .val (.ref b1), .val (.ref b3), .val (.ref b10), .unset] [])) _
    refine XS.iloadN X23.here hx rfl (hb hby at_134) rfl ?_
    show Steps p.tables e below (T23.setTop (mkF m 135 #[.val (.int ja), .val (.int jb), .val (.int kk), .val (.int (5 : Int32)), .val (.ref b1), .val (.ref b3), .val (.ref b10), .unset] [(.int (5 : Int32))])) _
    refine XS.bipush X23.here hx rfl (hb hby at_135) ?_
    show Steps p.tables e below (T23.setTop (mkF m 137 #[.val (.int ja), .val (.int jb), .val (.int kk), .val (.int (5 : Int32)), .val (.ref b1), .val (.ref b3), .val (.ref b10), .unset] [(.int (6 : Int32)), (.int (5 : Int32))])) _
    refine XS.icmpYes X23.here hx rfl (pc0 := 137) (pc' := 148) rfl (hb hby at_137) rfl (flt (by decide : ¬ ((6 : Int32) < (5 : Int32)))).2.2.2 (by decide) (by decide) ?_
    show Steps p.tables e below (T23.setTop (mkF m 148 #[.val (.int ja), .val (.int jb), .val (.int kk), .val (.int (5 : Int32)), .val (.ref b1), .val (.ref b3), .val (.ref b10), .unset] [])) _
    refine XS.iloadN X23.here hx rfl (hb hby at_148) rfl ?_
    show Steps p.tables e below (T23.setTop (mkF m 149 #[.val (.int ja), .val (.int jb), .val (.int kk), .val (.int (5 : Int32)), .val (.ref b1), .val (.ref b3), .val (.ref b10), .unset] [(.int (5 : Int32))])) _
    refine XS.iloadN X23.here hx rfl (hb hby at_149) rfl ?_
    show Steps p.tables e below (T23.setTop (mkF m 150 #[.val (.int ja), .val (.int jb), .val (.int kk), .val (.int (5 : Int32)), .val (.ref b1), .val (.ref b3), .val (.ref b10), .unset] [(.int kk), (.int (5 : Int32))])) _
    refine XS.icmpYes X23.here hx rfl (pc0 := 150) (pc' := 157) rfl (hb hby at_150) rfl (tlt hrd).2.2.1 (by decide) (by decide) ?_
    show Steps p.tables e below (T23.setTop (mkF m 157 #[.val (.int ja), .val (.int jb), .val (.int kk), .val (.int (5 : Int32)), .val (.ref b1), .val (.ref b3), .val (.ref b10), .unset] [])) _
    refine XS.iconst X23.here hx rfl (hb hby at_157) ?_
    show Steps p.tables e below (T23.setTop (mkF m 158 #[.val (.int ja), .val (.int jb), .val (.int kk), .val (.int (5 : Int32)), .val (.ref b1), .val (.ref b3), .val (.ref b10), .unset] [(.int (0 : Int32))])) _
    refine XS.istore X23.here hx rfl (hb hby at_158) rfl (l' := #[.val (.int ja), .val (.int jb), .val (.int kk), .val (.int (5 : Int32)), .val (.ref b1), .val (.ref b3), .val (.ref b10), .val (.int (0 : Int32))]) rfl ?_
    show Steps p.tables e below (T23.setTop (mkF m 160 #[.val (.int ja), .val (.int jb), .val (.int kk), .val (.int (5 : Int32)), .val (.ref b1), .val (.ref b3), .val (.ref b10), .val (.int (0 : Int32))] [])) _
    refine XS.aload X23.here hx rfl (hb hby at_160) rfl rfl ?_
    show Steps p.tables e below (T23.setTop (mkF m 162 #[.val (.int ja), .val (.int jb), .val (.int kk), .val (.int (5 : Int32)), .val (.ref b1), .val (.ref b3), .val (.ref b10), .val (.int (0 : Int32))] [(.ref b1)])) _
    refine XS.aload X23.here hx rfl (hb hby at_162) rfl rfl ?_
    show Steps p.tables e below (T23.setTop (mkF m 164 #[.val (.int ja), .val (.int jb), .val (.int kk), .val (.int (5 : Int32)), .val (.ref b1), .val (.ref b3), .val (.ref b10), .val (.int (0 : Int32))] [(.ref b10), (.ref b1)])) _
    refine st25.trans ?_
    show Steps p.tables e below (T25.setTop (mkF m 167 #[.val (.int ja), .val (.int jb), .val (.int kk), .val (.int (5 : Int32)), .val (.ref b1), .val (.ref b3), .val (.ref b10), .val (.int (0 : Int32))] [(.int (0 : Int32))])) _
    refine XS.iload X25.here hx rfl (hb hby at_167) rfl ?_
    show Steps p.tables e below (T25.setTop (mkF m 169 #[.val (.int ja), .val (.int jb), .val (.int kk), .val (.int (5 : Int32)), .val (.ref b1), .val (.ref b3), .val (.ref b10), .val (.int (0 : Int32))] [(.int (0 : Int32)), (.int (0 : Int32))])) _
    refine XS.icmpNo X25.here hx rfl (hb hby at_169) rfl (teq (rfl : (0 : Int32) = (0 : Int32))).2 ?_
    show Steps p.tables e below (T25.setTop (mkF m 172 #[.val (.int ja), .val (.int jb), .val (.int kk), .val (.int (5 : Int32)), .val (.ref b1), .val (.ref b3), .val (.ref b10), .val (.int (0 : Int32))] [])) _
    refine XS.iconst X25.here hx rfl (hb hby at_172) ?_
    show Steps p.tables e below (T25.setTop (mkF m 173 #[.val (.int ja), .val (.int jb), .val (.int kk), .val (.int (5 : Int32)), .val (.ref b1), .val (.ref b3), .val (.ref b10), .val (.int (0 : Int32))] [(.int (1 : Int32))])) _
    refine XS.goto X25.here hx rfl (pc0 := 173) (pc' := 177) rfl (hb hby at_173) (by decide) (by decide) ?_
    show Steps p.tables e below (T25.setTop (mkF m 177 #[.val (.int ja), .val (.int jb), .val (.int kk), .val (.int (5 : Int32)), .val (.ref b1), .val (.ref b3), .val (.ref b10), .val (.int (0 : Int32))] [(.int (1 : Int32))])) _
    exact retN X25 hx (t := .boolean) Bd.returns (by simp) (hb hby at_177) hr
  · show Q_rm0_5t Z ja jb kk de kd h0 n0 _ T25.heap _
    rw [e25]
    exact ⟨rfl, N25⟩
def Q_rm0_5f (Z : State) (ja : Int32) (jb : Int32) (kk : Int32) (de : Addr) (kd : ClassId) (h0 : Heap) (n0 : Nat) (v : Option Value) (h : Heap) (L : List Loc) : Prop := v = some (.int (1 : Int32)) ∧ Fr n0 L
theorem ef_rm0_5f (m : MethodId) (ja : Int32) (jb : Int32) : entryFrame m #[(.int ja), (.int jb)] maxLocals = mkF m 0 #[.val (.int ja), .val (.int jb), .unset, .unset, .unset, .unset, .unset, .unset] [] := by first | (simp [entryFrame, mkF, argsToLocals, Value.category, maxLocals]; done) | rfl
set_option maxRecDepth 65536 in
set_option maxHeartbeats 40000000 in
theorem rm0_5f (l : Launch) (Z : State) (a0 : Array Value) (hw : ∀ d ∈ tables_1, d.before a0 Z = true) (ws : List Jvm.Cond) (ja : Int32) (jb : Int32) (kk : Int32) (de : Addr) (kd : ClassId) (h0 : Heap) (n0 : Nat) (Z0 : n0 ≤ h0.size) (hwS : ∀ a ∈ Bundle.stringAtoms, a.before a0 Z = true) (hn0 : n0 = h0.size) (hcn : Jvm.Lit.constHeld Z "com/example/sortition/sortition/SlotsAllowsPinLaw" 15) (hcw : Jvm.Lit.compactW.before a0 Z = true) (S_DE : Sta Z h0 "java/util/ArrayList" "DEFAULTCAPACITY_EMPTY_ELEMENTDATA" "[Ljava/lang/Object;" (.ref de)) (V_de : Arv Z h0 de kd (.object "java/lang/Object") (0 : Int32) [] .null) (hkk : (own_k ja jb) = kk) (gkk : ¬ (kk < (0 : Int32))) (hn : (jb &&& (7 : Int32)) = (5 : Int32)) (hrd : ¬ (kk < (5 : Int32))) :
    MetFree l x (head1 (Jvm.Cond.code x code maxLocals ret :: ws) room_1) (fun a U => a = #[(.int ja), (.int jb)] ∧ Z.Warmed39 U.vm ∧ U.heap = h0 ∧ U.vm.interned = Z.vm.interned ∧ (∀ (b : Addr) (cl : Cell), Z.heap[b]? = some cl → U.heap[b]? = some cl)) (fun _ _ _ _ _ => True) (fun _ U o U' => ∃ v L, o = .returned v ∧ Q_rm0_5f Z ja jb kk de kd h0 n0 v U'.heap L ∧ ReturnedEndW U o U' L room_1.cells room_1.slots) := by
  refine MetFree.of_bodySF (plainFor_of_name pn_8) hisR ?_
  intro p e s m args below meth c s₁ Bd hml0 hP hK
  obtain ⟨rfl, hZ, hh, hI0, hK0⟩ := hP
  have hx := Bd.exec
  have hby := Bd.bytes
  have hml : c.maxLocals = 8 := hml0
  have hown : s.vm.findClass "com/example/sortition/sortition/SlotsAllowsPinLaw" = some m.cls := findClass_of_methodNamed Bd.named
  have hnm := (name_of_methodNamed Bd.named Bd.method).1
  have X0 : Stand p l e room_1 s m #[(.int ja), (.int jb)] below meth c s₁ [] 0 0 := Stand.of_body Bd
  have e0 : s₁.heap = h0 := by rw [← hh, Bd.state]; rfl
  have N0 := Fr.nil n0
  have hS0 := (State.WarmedH.refl s).since 0
  have pre0 : ∀ t, Steps p.tables e below (s₁.setTop (mkF m 0 #[.val (.int ja), .val (.int jb), .unset, .unset, .unset, .unset, .unset, .unset] [])) t → Steps p.tables e below (s₁.setTop (entryFrame m #[(.int ja), (.int jb)] maxLocals)) t := fun t k => castTop (ef_rm0_5f m ja jb) k
  have stp := own_pre ja jb X0 hx hZ hw hby hown
  rw [hkk] at stp
  obtain ⟨T1, h1, X1, e1, E1, A1, D1, -, st1⟩ := newO X0 hx hZ hown (ow hw 0 rfl) (ow hw 1 rfl) (ow hw 2 rfl) e0 (g := (mkF m 25 #[.val (.int ja), .val (.int jb), .val (.int kk), .val (.int (5 : Int32)), .unset, .unset, .unset, .unset] [])) rfl (hb hby at_25) (by decide) (by decide)
  obtain ⟨b1, g1⟩ : ∃ z, z = h0.size := ⟨_, rfl⟩
  rw [← g1] at A1 D1 st1
  have F1_3 : Fld Z h1 b1 "com/example/sortition/sortition/Slots" "size" "I" (.int (0 : Int32)) := D1 (Or.inr (ow hw 15 rfl)) (ty := .int) (by decide)
  obtain ⟨_, _, ⟨T2, L2, k2, n2⟩, -, X2, ⟨Lc2, hQ2, l2, y2, z2⟩, st2⟩ := X1.specialBack hx (y := (⟨"com/example/sortition/sortition/Slots", "<init>", "(I)V"⟩ : MethodName)) rfl hown (mvT hZ (ow hw 3 rfl)) (mvT hZ (ow hw 4 rfl)) (mvT hZ (ow hw 5 rfl)) (by decide) (backOf (W := 1) (rmSl l Z a0 hw [] b1 kk (.int (0 : Int32)) h1 n0 (Nat.le_trans Z0 E1.1) gkk F1_3 A1 (Nat.le_trans Z0 (Nat.le_of_eq g1.symm))) hZ (ow hw 5 rfl) (ow hw 2 rfl) (by decide) (by decide)) (g := (mkF m 30 #[.val (.int ja), .val (.int jb), .val (.int kk), .val (.int (5 : Int32)), .unset, .unset, .unset, .unset] [(.int kk), (.ref b1), (.ref b1)])) rfl (by rw [hml]; rfl) (Steps.refl _) (a := b1) (argsL := [(.int kk)]) (rest := [(.ref b1)]) (lenOf pd_8 rfl) rfl (by show 2 * 0 + _ ≤ _; exact Nat.le_of_eq rfl) (hb hby at_30) (fun _ _ => ⟨rfl, e1, (by decide : 1 + 0 ≤ _), (by decide : 1 + 0 ≤ _)⟩)
  dsimp only [Pt.U, Pt.locs, Pt.cells, Pt.slots] at X2 l2 y2 z2 st2 hQ2
  subst l2 y2 z2
  obtain ⟨rfl, Nq2, Kp2, Fq2_0, Fq2_1⟩ := hQ2
  have N2 := Fr.app N0 Nq2
  obtain ⟨T3, h3, X3, e3, E3, A3, D3, -, st3⟩ := newO X2 hx hZ hown (ow hw 16 rfl) (ow hw 17 rfl) (ow hw 18 rfl) rfl (g := (mkF m 35 #[.val (.int ja), .val (.int jb), .val (.int kk), .val (.int (5 : Int32)), .val (.ref b1), .unset, .unset, .unset] [])) rfl (hb hby at_35) (by decide) (by decide)
  obtain ⟨b3, g3⟩ : ∃ z, z = T2.heap.size := ⟨_, rfl⟩
  rw [← g3] at A3 D3 st3
  have F3_5 : Fld Z h3 b3 "com/example/sortition/sortition/Element" "index" "I" (.int (0 : Int32)) := D3 (Or.inr (ow hw 44 rfl)) (ty := .int) (by decide)
  have F3_6 : Fld Z h3 b3 "com/example/sortition/sortition/Element" "id" "Ljava/lang/String;" .null := D3 (Or.inr (ow hw 46 rfl)) (ty := (.object "java/lang/String")) (by decide)
  have F3_7 : Fld Z h3 b3 "com/example/sortition/sortition/Element" "value" "D" (.double 0) := D3 (Or.inr (ow hw 48 rfl)) (ty := .double) (by decide)
  obtain ⟨a4, T4, h4, k4, b4, kc4, X4, e4, E4, hS4, hk4, hZ4, hown4, A4, -, Fv4, V4, -, -, -, st4⟩ := ldcSV (s := s) (vm0 := s.vm) X3 hx hZ hown (ow hw 19 rfl) hwS e3 hS0 (Nat.le_trans (Nat.le_trans (Nat.le_trans (Nat.zero_le _) E1.1) Kp2.1) E3.1) (by rw [hh, ← hn0]; exact N2) hK0 (⟨#[], by simpa using hI0, fun q hq => by simp at hq⟩ : IB Z s.vm []) (by simp) hcn hcw (vs := [(.int (120 : Int32))]) (z := (1 : Int32)) ⟨by decide, by decide⟩ (by decide) rfl (g := (mkF m 40 #[.val (.int ja), .val (.int jb), .val (.int kk), .val (.int (5 : Int32)), .val (.ref b1), .unset, .unset, .unset] [(.int (0 : Int32)), (.ref b3), (.ref b3)])) rfl (hb hby at_40) (n := 4) (by decide) (by decide) (by decide) (by decide)
  have f6 : Fld Z h4 b3 "com/example/sortition/sortition/Element" "index" "I" (.int (0 : Int32)) := (F3_5.ext E4)
  have f7 : Exa Z h4 b3 "com/example/sortition/sortition/Element" := (A3.ext E4)
  have f8 : Fld Z h4 b3 "com/example/sortition/sortition/Element" "id" "Ljava/lang/String;" .null := (F3_6.ext E4)
  have f9 : Fld Z h4 b3 "com/example/sortition/sortition/Element" "value" "D" (.double 0) := (F3_7.ext E4)
  obtain ⟨_, _, ⟨T5, L5, k5, n5⟩, -, X5, hSq5, hgq5, ⟨Lc5, hQ5, l5, y5, z5⟩, st5⟩ := X4.specialBackS hx (y := (⟨"com/example/sortition/sortition/Element", "<init>", "(ILjava/lang/String;D)V"⟩ : MethodName)) rfl hown4 (mvT hZ4 (ow hw 27 rfl)) (mvT hZ4 (ow hw 28 rfl)) (mvT hZ4 (ow hw 29 rfl)) (by decide) (backOfS (W := 1) (rmEI l Z a0 hw [] b3 (0 : Int32) a4 4607182418800017408 b4 kc4 [(.int (120 : Int32))] (.int (0 : Int32)) .null (.double 0) h4 n0 (Nat.le_trans (Nat.le_trans (Nat.le_trans (Nat.le_trans Z0 E1.1) Kp2.1) E3.1) E4.1) hwS A4 Fv4 V4 (by first | assumption | decide) (by decide +kernel) (by decide +kernel) own_nn1 f6 f7 (Nat.le_trans (Nat.le_trans (Nat.le_trans Z0 E1.1) Kp2.1) (Nat.le_of_eq g3.symm)) f8 f9) hZ4 (ow hw 29 rfl) (ow hw 18 rfl) (by decide) (by decide)) (g := (mkF m 43 #[.val (.int ja), .val (.int jb), .val (.int kk), .val (.int (5 : Int32)), .val (.ref b1), .unset, .unset, .unset] [(.double 4607182418800017408), (.ref a4), (.int (0 : Int32)), (.ref b3), (.ref b3)])) rfl (by rw [hml]; rfl) (Steps.refl _) (a := b3) (argsL := [(.int (0 : Int32)), (.ref a4), (.double 4607182418800017408)]) (rest := [(.ref b3)]) (lenOf pd_9 rfl) rfl (by show 2 * 0 + _ ≤ _; exact Nat.le_of_eq rfl) (hb hby at_43) (fun _ _ => ⟨rfl, e4, (by decide : 4 + 2 ≤ _), (by decide : 12 + 12 ≤ _)⟩)
  dsimp only [Pt.U, Pt.locs, Pt.cells, Pt.slots] at X5 l5 y5 z5 st5 hQ5 hSq5 hgq5
  subst l5 y5 z5
  obtain ⟨X5, hS5, hZ5, hown5⟩ := rebS (s := s) (vm0 := T4.vm) hS4 (by rw [e4]; exact hk4) X5 hSq5 hgq5 hZ4 hown4
  obtain ⟨rfl, Nq5, Kp5, Fq5_0, Fq5_1, Fq5_2⟩ := hQ5
  have N5 := Fr.app N2 Nq5
  obtain ⟨T10, h10, X10, e10, E10, A10, D10, -, st10⟩ := newO X5 hx hZ5 hown5 (ow hw 49 rfl) (ow hw 50 rfl) (ow hw 51 rfl) rfl (g := (mkF m 48 #[.val (.int ja), .val (.int jb), .val (.int kk), .val (.int (5 : Int32)), .val (.ref b1), .val (.ref b3), .unset, .unset] [])) rfl (hb hby at_48) (by decide) (by decide)
  obtain ⟨b10, g10⟩ : ∃ z, z = T5.heap.size := ⟨_, rfl⟩
  rw [← g10] at A10 D10 st10
  have F10_12 : Fld Z h10 b10 "java/util/AbstractList" "modCount" "I" (.int (0 : Int32)) := D10 (Or.inl (ow hw 69 rfl)) (ty := .int) (by decide)
  have F10_13 : Fld Z h10 b10 "java/util/ArrayList" "elementData" "[Ljava/lang/Object;" .null := D10 (Or.inl (ow hw 72 rfl)) (ty := (.array (.object "java/lang/Object"))) (by decide)
  have F10_14 : Fld Z h10 b10 "java/util/ArrayList" "size" "I" (.int (0 : Int32)) := D10 (Or.inl (ow hw 81 rfl)) (ty := .int) (by decide)
  have f12 : Sta Z h10 "java/util/ArrayList" "DEFAULTCAPACITY_EMPTY_ELEMENTDATA" "[Ljava/lang/Object;" (.ref de) := ((Sta_keep (((Sta_keep (S_DE.ext E1) Kp2 (nsS A1.nostat ns0)).ext E3).ext E4) Kp5 (nsS f7.nostat ns0)).ext E10)
  obtain ⟨_, _, ⟨T11, L11, k11, n11⟩, -, X11, ⟨Lc11, hQ11, l11, y11, z11⟩, st11⟩ := X10.specialBack hx (y := (⟨"java/util/ArrayList", "<init>", "()V"⟩ : MethodName)) rfl hown5 (mvT hZ5 (ow hw 52 rfl)) (mvT hZ5 (ow hw 53 rfl)) (mvT hZ5 (ow hw 54 rfl)) (by decide) (backOf (W := 1) (rmAL l Z a0 hw [] b10 de (.int (0 : Int32)) .null h10 n0 (Nat.le_trans (Nat.le_trans (Nat.le_trans (Nat.le_trans (Nat.le_trans (Nat.le_trans Z0 E1.1) Kp2.1) E3.1) E4.1) Kp5.1) E10.1) A10 F10_12 F10_13 f12 F10_14 (Nat.le_trans (Nat.le_trans (Nat.le_trans (Nat.le_trans (Nat.le_trans (Nat.le_trans Z0 E1.1) Kp2.1) E3.1) E4.1) Kp5.1) (Nat.le_of_eq g10.symm))) hZ5 (ow hw 54 rfl) (ow hw 51 rfl) (by decide) (by decide)) (g := (mkF m 52 #[.val (.int ja), .val (.int jb), .val (.int kk), .val (.int (5 : Int32)), .val (.ref b1), .val (.ref b3), .unset, .unset] [(.ref b10), (.ref b10)])) rfl (by rw [hml]; rfl) (Steps.refl _) (a := b10) (argsL := []) (rest := [(.ref b10)]) (lenOf pd_0 rfl) rfl (by show 2 * 0 + _ ≤ _; exact Nat.le_of_eq rfl) (hb hby at_52) (fun _ _ => ⟨rfl, e10, (by decide : 7 + 0 ≤ _), (by decide : 27 + 0 ≤ _)⟩)
  dsimp only [Pt.U, Pt.locs, Pt.cells, Pt.slots] at X11 l11 y11 z11 st11 hQ11
  subst l11 y11 z11
  obtain ⟨rfl, Nq11, Kp11, Fq11_0, Fq11_1, Fq11_2, Fq11_3⟩ := hQ11
  have N11 := Fr.app N5 Nq11
  have f14 : Arv Z T11.heap de kd (.object "java/lang/Object") (0 : Int32) [] .null := (((((((V_de.ext E1).keep Kp2 (ninS (Nat.ne_of_lt (Nat.lt_of_lt_of_le V_de.lt (Nat.le_of_eq g1.symm))) nin0)).ext E3).ext E4).keep Kp5 (ninS (Nat.ne_of_lt (Nat.lt_of_lt_of_le ((V_de.ext E1).keep Kp2 (ninS (Nat.ne_of_lt (Nat.lt_of_lt_of_le V_de.lt (Nat.le_of_eq g1.symm))) nin0)).lt (Nat.le_of_eq g3.symm))) nin0)).ext E10).keep Kp11 (ninS (Nat.ne_of_lt (Nat.lt_of_lt_of_le (((((V_de.ext E1).keep Kp2 (ninS (Nat.ne_of_lt (Nat.lt_of_lt_of_le V_de.lt (Nat.le_of_eq g1.symm))) nin0)).ext E3).ext E4).keep Kp5 (ninS (Nat.ne_of_lt (Nat.lt_of_lt_of_le ((V_de.ext E1).keep Kp2 (ninS (Nat.ne_of_lt (Nat.lt_of_lt_of_le V_de.lt (Nat.le_of_eq g1.symm))) nin0)).lt (Nat.le_of_eq g3.symm))) nin0)).lt (Nat.le_of_eq g10.symm))) nin0))
  have f15 : Sta Z T11.heap "java/util/ArrayList" "DEFAULTCAPACITY_EMPTY_ELEMENTDATA" "[Ljava/lang/Object;" (.ref de) := (Sta_keep f12 Kp11 (nsS A10.nostat ns0))
  have f16 : Exa Z T11.heap b3 "com/example/sortition/sortition/Element" := ((Fq5_0.ext E10).keep Kp11)
  obtain ⟨cq13, kq13, q13a, q13b, q13c⟩ := isOf hZ5 rfl Fq11_0
  obtain ⟨_, _, ⟨T13, L13, k13, n13⟩, -, X13, ⟨Lc13, hQ13, l13, y13, z13⟩, st13⟩ := X11.virtualBack hx (y := (⟨"java/util/ArrayList", "add", "(Ljava/lang/Object;)Z"⟩ : MethodName)) (z := (⟨"java/util/ArrayList", "add", "(Ljava/lang/Object;)Z"⟩ : MethodName)) hown5 (mvT hZ5 (ow hw 73 rfl)) (mvT hZ5 (ow hw 74 rfl)) (notFace_of_selects (args := #[]) (mvT hZ5 (ow hw 76 rfl))) (mvT hZ5 (ow hw 76 rfl)) (mvT hZ5 (ow hw 75 rfl)) (by decide) (backOf (W := 0) (rmA0 l Z a0 hw [] b10 b3 de kd (0 : Int32) T11.heap n0 (Nat.le_trans (Nat.le_trans (Nat.le_trans (Nat.le_trans (Nat.le_trans (Nat.le_trans (Nat.le_trans Z0 E1.1) Kp2.1) E3.1) E4.1) Kp5.1) E10.1) Kp11.1) Fq11_1 Fq11_0 Fq11_2 Fq11_3 f14 f15 f16 (Nat.le_trans (Nat.le_trans (Nat.le_trans (Nat.le_trans (Nat.le_trans (Nat.le_trans Z0 E1.1) Kp2.1) E3.1) E4.1) Kp5.1) (Nat.le_of_eq g10.symm)) (Nat.ne_of_lt (Nat.lt_of_lt_of_le (((((V_de.ext E1).keep Kp2 (ninS (Nat.ne_of_lt (Nat.lt_of_lt_of_le V_de.lt (Nat.le_of_eq g1.symm))) nin0)).ext E3).ext E4).keep Kp5 (ninS (Nat.ne_of_lt (Nat.lt_of_lt_of_le ((V_de.ext E1).keep Kp2 (ninS (Nat.ne_of_lt (Nat.lt_of_lt_of_le V_de.lt (Nat.le_of_eq g1.symm))) nin0)).lt (Nat.le_of_eq g3.symm))) nin0)).lt (Nat.le_of_eq g10.symm)))) hZ5 (ow hw 77 rfl) (ow hw 51 rfl) (by decide) (by decide)) q13a q13c (g := (mkF m 65 #[.val (.int ja), .val (.int jb), .val (.int kk), .val (.int (5 : Int32)), .val (.ref b1), .val (.ref b3), .val (.ref b10), .unset] [(.ref b3), (.ref b10)])) rfl (by rw [hml]; rfl) (Steps.refl _) (argsL := [(.ref b3)]) (rest := []) (lenOf pd_11 rfl) rfl (by show 2 * 0 + _ ≤ _; exact Nat.le_of_eq rfl) (hb hby at_65) (fun _ _ => ⟨rfl, rfl, (by decide : 7 + 1 ≤ _), (by decide : 27 + 10 ≤ _)⟩)
  dsimp only [Pt.U, Pt.locs, Pt.cells, Pt.slots] at X13 l13 y13 z13 st13 hQ13
  subst l13 y13 z13
  obtain ⟨nb_13, ka_13, rfl, Nq13, gb13_0, Kp13, Fq13_0, Fq13_1, Fq13_2, Fq13_3, Fq13_4, Pq13_0⟩ := hQ13
  have N13 := Fr.app N11 Nq13
  have f18 : Exa Z T13.heap b3 "com/example/sortition/sortition/Element" := (f16.keep Kp13)
  obtain ⟨cq17, kq17, q17a, q17b, q17c⟩ := isOf hZ5 rfl Fq13_0
  obtain ⟨_, _, ⟨T17, L17, k17, n17⟩, -, X17, ⟨Lc17, hQ17, l17, y17, z17⟩, st17⟩ := X13.virtualBack hx (y := (⟨"java/util/ArrayList", "add", "(Ljava/lang/Object;)Z"⟩ : MethodName)) (z := (⟨"java/util/ArrayList", "add", "(Ljava/lang/Object;)Z"⟩ : MethodName)) hown5 (mvT hZ5 (ow hw 73 rfl)) (mvT hZ5 (ow hw 74 rfl)) (notFace_of_selects (args := #[]) (mvT hZ5 (ow hw 76 rfl))) (mvT hZ5 (ow hw 76 rfl)) (mvT hZ5 (ow hw 75 rfl)) (by decide) (backOf (W := 0) (rmA1 l Z a0 hw [] b10 b3 nb_13 ka_13 ((0 : Int32) + (1 : Int32)) T13.heap n0 (Nat.le_trans (Nat.le_trans (Nat.le_trans (Nat.le_trans (Nat.le_trans (Nat.le_trans (Nat.le_trans (Nat.le_trans Z0 E1.1) Kp2.1) E3.1) E4.1) Kp5.1) E10.1) Kp11.1) Kp13.1) Fq13_1 Fq13_0 Fq13_2 Fq13_3 Fq13_4 Pq13_0 f18 (Nat.le_trans (Nat.le_trans (Nat.le_trans (Nat.le_trans (Nat.le_trans (Nat.le_trans Z0 E1.1) Kp2.1) E3.1) E4.1) Kp5.1) (Nat.le_of_eq g10.symm)) (Ne.symm (Nat.ne_of_lt (Nat.lt_of_lt_of_le Fq11_0.lt gb13_0))) (Nat.le_trans (Nat.le_trans (Nat.le_trans (Nat.le_trans (Nat.le_trans (Nat.le_trans (Nat.le_trans (Nat.le_trans Z0 E1.1) Kp2.1) E3.1) E4.1) Kp5.1) E10.1) Kp11.1) gb13_0)) hZ5 (ow hw 77 rfl) (ow hw 51 rfl) (by decide) (by decide)) q17a q17c (g := (mkF m 78 #[.val (.int ja), .val (.int jb), .val (.int kk), .val (.int (5 : Int32)), .val (.ref b1), .val (.ref b3), .val (.ref b10), .unset] [(.ref b3), (.ref b10)])) rfl (by rw [hml]; rfl) (Steps.refl _) (argsL := [(.ref b3)]) (rest := []) (lenOf pd_11 rfl) rfl (by show 2 * 0 + _ ≤ _; exact Nat.le_of_eq rfl) (hb hby at_78) (fun _ _ => ⟨rfl, rfl, (by decide : 8 + 0 ≤ _), (by decide : 37 + 0 ≤ _)⟩)
  dsimp only [Pt.U, Pt.locs, Pt.cells, Pt.slots] at X17 l17 y17 z17 st17 hQ17
  subst l17 y17 z17
  obtain ⟨rfl, Nq17, Kp17, Fq17_0, Fq17_1, Fq17_2, Fq17_3, Fq17_4⟩ := hQ17
  have N17 := Fr.app N13 Nq17
  have f20 : Exa Z T17.heap b3 "com/example/sortition/sortition/Element" := (f18.keep Kp17)
  obtain ⟨cq19, kq19, q19a, q19b, q19c⟩ := isOf hZ5 rfl Fq17_0
  obtain ⟨_, _, ⟨T19, L19, k19, n19⟩, -, X19, ⟨Lc19, hQ19, l19, y19, z19⟩, st19⟩ := X17.virtualBack hx (y := (⟨"java/util/ArrayList", "add", "(Ljava/lang/Object;)Z"⟩ : MethodName)) (z := (⟨"java/util/ArrayList", "add", "(Ljava/lang/Object;)Z"⟩ : MethodName)) hown5 (mvT hZ5 (ow hw 73 rfl)) (mvT hZ5 (ow hw 74 rfl)) (notFace_of_selects (args := #[]) (mvT hZ5 (ow hw 76 rfl))) (mvT hZ5 (ow hw 76 rfl)) (mvT hZ5 (ow hw 75 rfl)) (by decide) (backOf (W := 0) (rmA2 l Z a0 hw [] b10 b3 nb_13 ka_13 (((0 : Int32) + (1 : Int32)) + (1 : Int32)) T17.heap n0 (Nat.le_trans (Nat.le_trans (Nat.le_trans (Nat.le_trans (Nat.le_trans (Nat.le_trans (Nat.le_trans (Nat.le_trans (Nat.le_trans Z0 E1.1) Kp2.1) E3.1) E4.1) Kp5.1) E10.1) Kp11.1) Kp13.1) Kp17.1) Fq17_1 Fq17_0 Fq17_2 Fq17_3 Fq17_4 Pq13_0 f20 (Nat.le_trans (Nat.le_trans (Nat.le_trans (Nat.le_trans (Nat.le_trans (Nat.le_trans Z0 E1.1) Kp2.1) E3.1) E4.1) Kp5.1) (Nat.le_of_eq g10.symm)) (Ne.symm (Nat.ne_of_lt (Nat.lt_of_lt_of_le Fq11_0.lt gb13_0))) (Nat.le_trans (Nat.le_trans (Nat.le_trans (Nat.le_trans (Nat.le_trans (Nat.le_trans (Nat.le_trans (Nat.le_trans Z0 E1.1) Kp2.1) E3.1) E4.1) Kp5.1) E10.1) Kp11.1) gb13_0)) hZ5 (ow hw 77 rfl) (ow hw 51 rfl) (by decide) (by decide)) q19a q19c (g := (mkF m 91 #[.val (.int ja), .val (.int jb), .val (.int kk), .val (.int (5 : Int32)), .val (.ref b1), .val (.ref b3), .val (.ref b10), .unset] [(.ref b3), (.ref b10)])) rfl (by rw [hml]; rfl) (Steps.refl _) (argsL := [(.ref b3)]) (rest := []) (lenOf pd_11 rfl) rfl (by show 2 * 0 + _ ≤ _; exact Nat.le_of_eq rfl) (hb hby at_91) (fun _ _ => ⟨rfl, rfl, (by decide : 8 + 0 ≤ _), (by decide : 37 + 0 ≤ _)⟩)
  dsimp only [Pt.U, Pt.locs, Pt.cells, Pt.slots] at X19 l19 y19 z19 st19 hQ19
  subst l19 y19 z19
  obtain ⟨rfl, Nq19, Kp19, Fq19_0, Fq19_1, Fq19_2, Fq19_3, Fq19_4⟩ := hQ19
  have N19 := Fr.app N17 Nq19
  have f22 : Exa Z T19.heap b3 "com/example/sortition/sortition/Element" := (f20.keep Kp19)
  obtain ⟨cq21, kq21, q21a, q21b, q21c⟩ := isOf hZ5 rfl Fq19_0
  obtain ⟨_, _, ⟨T21, L21, k21, n21⟩, -, X21, ⟨Lc21, hQ21, l21, y21, z21⟩, st21⟩ := X19.virtualBack hx (y := (⟨"java/util/ArrayList", "add", "(Ljava/lang/Object;)Z"⟩ : MethodName)) (z := (⟨"java/util/ArrayList", "add", "(Ljava/lang/Object;)Z"⟩ : MethodName)) hown5 (mvT hZ5 (ow hw 73 rfl)) (mvT hZ5 (ow hw 74 rfl)) (notFace_of_selects (args := #[]) (mvT hZ5 (ow hw 76 rfl))) (mvT hZ5 (ow hw 76 rfl)) (mvT hZ5 (ow hw 75 rfl)) (by decide) (backOf (W := 0) (rmA3 l Z a0 hw [] b10 b3 nb_13 ka_13 ((((0 : Int32) + (1 : Int32)) + (1 : Int32)) + (1 : Int32)) T19.heap n0 (Nat.le_trans (Nat.le_trans (Nat.le_trans (Nat.le_trans (Nat.le_trans (Nat.le_trans (Nat.le_trans (Nat.le_trans (Nat.le_trans (Nat.le_trans Z0 E1.1) Kp2.1) E3.1) E4.1) Kp5.1) E10.1) Kp11.1) Kp13.1) Kp17.1) Kp19.1) Fq19_1 Fq19_0 Fq19_2 Fq19_3 Fq19_4 Pq13_0 f22 (Nat.le_trans (Nat.le_trans (Nat.le_trans (Nat.le_trans (Nat.le_trans (Nat.le_trans Z0 E1.1) Kp2.1) E3.1) E4.1) Kp5.1) (Nat.le_of_eq g10.symm)) (Ne.symm (Nat.ne_of_lt (Nat.lt_of_lt_of_le Fq11_0.lt gb13_0))) (Nat.le_trans (Nat.le_trans (Nat.le_trans (Nat.le_trans (Nat.le_trans (Nat.le_trans (Nat.le_trans (Nat.le_trans Z0 E1.1) Kp2.1) E3.1) E4.1) Kp5.1) E10.1) Kp11.1) gb13_0)) hZ5 (ow hw 77 rfl) (ow hw 51 rfl) (by decide) (by decide)) q21a q21c (g := (mkF m 104 #[.val (.int ja), .val (.int jb), .val (.int kk), .val (.int (5 : Int32)), .val (.ref b1), .val (.ref b3), .val (.ref b10), .unset] [(.ref b3), (.ref b10)])) rfl (by rw [hml]; rfl) (Steps.refl _) (argsL := [(.ref b3)]) (rest := []) (lenOf pd_11 rfl) rfl (by show 2 * 0 + _ ≤ _; exact Nat.le_of_eq rfl) (hb hby at_104) (fun _ _ => ⟨rfl, rfl, (by decide : 8 + 0 ≤ _), (by decide : 37 + 0 ≤ _)⟩)
  dsimp only [Pt.U, Pt.locs, Pt.cells, Pt.slots] at X21 l21 y21 z21 st21 hQ21
  subst l21 y21 z21
  obtain ⟨rfl, Nq21, Kp21, Fq21_0, Fq21_1, Fq21_2, Fq21_3, Fq21_4⟩ := hQ21
  have N21 := Fr.app N19 Nq21
  have f24 : Exa Z T21.heap b3 "com/example/sortition/sortition/Element" := (f22.keep Kp21)
  obtain ⟨cq23, kq23, q23a, q23b, q23c⟩ := isOf hZ5 rfl Fq21_0
  obtain ⟨_, _, ⟨T23, L23, k23, n23⟩, -, X23, ⟨Lc23, hQ23, l23, y23, z23⟩, st23⟩ := X21.virtualBack hx (y := (⟨"java/util/ArrayList", "add", "(Ljava/lang/Object;)Z"⟩ : MethodName)) (z := (⟨"java/util/ArrayList", "add", "(Ljava/lang/Object;)Z"⟩ : MethodName)) hown5 (mvT hZ5 (ow hw 73 rfl)) (mvT hZ5 (ow hw 74 rfl)) (notFace_of_selects (args := #[]) (mvT hZ5 (ow hw 76 rfl))) (mvT hZ5 (ow hw 76 rfl)) (mvT hZ5 (ow hw 75 rfl)) (by decide) (backOf (W := 0) (rmA4 l Z a0 hw [] b10 b3 nb_13 ka_13 (((((0 : Int32) + (1 : Int32)) + (1 : Int32)) + (1 : Int32)) + (1 : Int32)) T21.heap n0 (Nat.le_trans (Nat.le_trans (Nat.le_trans (Nat.le_trans (Nat.le_trans (Nat.le_trans (Nat.le_trans (Nat.le_trans (Nat.le_trans (Nat.le_trans (Nat.le_trans Z0 E1.1) Kp2.1) E3.1) E4.1) Kp5.1) E10.1) Kp11.1) Kp13.1) Kp17.1) Kp19.1) Kp21.1) Fq21_1 Fq21_0 Fq21_2 Fq21_3 Fq21_4 Pq13_0 f24 (Nat.le_trans (Nat.le_trans (Nat.le_trans (Nat.le_trans (Nat.le_trans (Nat.le_trans Z0 E1.1) Kp2.1) E3.1) E4.1) Kp5.1) (Nat.le_of_eq g10.symm)) (Ne.symm (Nat.ne_of_lt (Nat.lt_of_lt_of_le Fq11_0.lt gb13_0))) (Nat.le_trans (Nat.le_trans (Nat.le_trans (Nat.le_trans (Nat.le_trans (Nat.le_trans (Nat.le_trans (Nat.le_trans Z0 E1.1) Kp2.1) E3.1) E4.1) Kp5.1) E10.1) Kp11.1) gb13_0)) hZ5 (ow hw 77 rfl) (ow hw 51 rfl) (by decide) (by decide)) q23a q23c (g := (mkF m 117 #[.val (.int ja), .val (.int jb), .val (.int kk), .val (.int (5 : Int32)), .val (.ref b1), .val (.ref b3), .val (.ref b10), .unset] [(.ref b3), (.ref b10)])) rfl (by rw [hml]; rfl) (Steps.refl _) (argsL := [(.ref b3)]) (rest := []) (lenOf pd_11 rfl) rfl (by show 2 * 0 + _ ≤ _; exact Nat.le_of_eq rfl) (hb hby at_117) (fun _ _ => ⟨rfl, rfl, (by decide : 8 + 0 ≤ _), (by decide : 37 + 0 ≤ _)⟩)
  dsimp only [Pt.U, Pt.locs, Pt.cells, Pt.slots] at X23 l23 y23 z23 st23 hQ23
  subst l23 y23 z23
  obtain ⟨rfl, Nq23, Kp23, Fq23_0, Fq23_1, Fq23_2, Fq23_3, Fq23_4⟩ := hQ23
  have N23 := Fr.app N21 Nq23
  have f26 : Fld Z T23.heap b1 "com/example/sortition/sortition/Slots" "size" "I" (.int kk) := ((((((((((Fq2_1.ext E3).ext E4).keep Kp5 (ninS (Nat.ne_of_lt (Nat.lt_of_lt_of_le Fq2_0.lt (Nat.le_of_eq g3.symm))) nin0)).ext E10).keep Kp11 (ninS (Nat.ne_of_lt (Nat.lt_of_lt_of_le (((Fq2_0.ext E3).ext E4).keep Kp5).lt (Nat.le_of_eq g10.symm))) nin0)).keep Kp13 (ninS (Nat.ne_of_lt (Nat.lt_of_lt_of_le (((Fq2_0.ext E3).ext E4).keep Kp5).lt (Nat.le_of_eq g10.symm))) nin0)).keep Kp17 (ninS (Nat.ne_of_lt (Nat.lt_of_lt_of_le (((Fq2_0.ext E3).ext E4).keep Kp5).lt (Nat.le_of_eq g10.symm))) (ninS (Nat.ne_of_lt (Nat.lt_of_lt_of_le (((((Fq2_0.ext E3).ext E4).keep Kp5).ext E10).keep Kp11).lt gb13_0)) nin0))).keep Kp19 (ninS (Nat.ne_of_lt (Nat.lt_of_lt_of_le (((Fq2_0.ext E3).ext E4).keep Kp5).lt (Nat.le_of_eq g10.symm))) (ninS (Nat.ne_of_lt (Nat.lt_of_lt_of_le (((((Fq2_0.ext E3).ext E4).keep Kp5).ext E10).keep Kp11).lt gb13_0)) nin0))).keep Kp21 (ninS (Nat.ne_of_lt (Nat.lt_of_lt_of_le (((Fq2_0.ext E3).ext E4).keep Kp5).lt (Nat.le_of_eq g10.symm))) (ninS (Nat.ne_of_lt (Nat.lt_of_lt_of_le (((((Fq2_0.ext E3).ext E4).keep Kp5).ext E10).keep Kp11).lt gb13_0)) nin0))).keep Kp23 (ninS (Nat.ne_of_lt (Nat.lt_of_lt_of_le (((Fq2_0.ext E3).ext E4).keep Kp5).lt (Nat.le_of_eq g10.symm))) (ninS (Nat.ne_of_lt (Nat.lt_of_lt_of_le (((((Fq2_0.ext E3).ext E4).keep Kp5).ext E10).keep Kp11).lt gb13_0)) nin0)))
  have f27 : Exa Z T23.heap b1 "com/example/sortition/sortition/Slots" := ((((((((((Fq2_0.ext E3).ext E4).keep Kp5).ext E10).keep Kp11).keep Kp13).keep Kp17).keep Kp19).keep Kp21).keep Kp23)
  obtain ⟨cq25, kq25, q25a, q25b, q25c⟩ := isOf hZ5 rfl f27
  obtain ⟨_, _, ⟨T25, L25, k25, n25⟩, -, X25, ⟨Lc25, hQ25, l25, y25, z25⟩, st25⟩ := X23.virtualBack hx (y := (⟨"com/example/sortition/sortition/Slots", "allows", "(Ljava/util/List;)Z"⟩ : MethodName)) (z := (⟨"com/example/sortition/sortition/Slots", "allows", "(Ljava/util/List;)Z"⟩ : MethodName)) hown5 (mvT hZ5 (ow hw 104 rfl)) (mvT hZ5 (ow hw 105 rfl)) (notFace_of_selects (args := #[]) (mvT hZ5 (ow hw 107 rfl))) (mvT hZ5 (ow hw 107 rfl)) (mvT hZ5 (ow hw 106 rfl)) (by decide) (backOf (W := 0) (rmAW_f l Z a0 hw [] b1 b10 (5 : Int32) kk T23.heap n0 (Nat.le_trans (Nat.le_trans (Nat.le_trans (Nat.le_trans (Nat.le_trans (Nat.le_trans (Nat.le_trans (Nat.le_trans (Nat.le_trans (Nat.le_trans (Nat.le_trans (Nat.le_trans Z0 E1.1) Kp2.1) E3.1) E4.1) Kp5.1) E10.1) Kp11.1) Kp13.1) Kp17.1) Kp19.1) Kp21.1) Kp23.1) Fq23_0 Fq23_3 f26 hrd) hZ5 (ow hw 108 rfl) (ow hw 2 rfl) (by decide) (by decide)) q25a q25c (g := (mkF m 164 #[.val (.int ja), .val (.int jb), .val (.int kk), .val (.int (5 : Int32)), .val (.ref b1), .val (.ref b3), .val (.ref b10), .val (.int (1 : Int32))] [(.ref b10), (.ref b1)])) rfl (by rw [hml]; rfl) (Steps.refl _) (argsL := [(.ref b10)]) (rest := []) (lenOf pd_10 rfl) rfl (by show 2 * 0 + _ ≤ _; exact Nat.le_of_eq rfl) (hb hby at_164) (fun _ _ => ⟨rfl, rfl, (by decide : 8 + 0 ≤ _), (by decide : 37 + 0 ≤ _)⟩)
  dsimp only [Pt.U, Pt.locs, Pt.cells, Pt.slots] at X25 l25 y25 z25 st25 hQ25
  subst l25 y25 z25
  obtain ⟨rfl, Nq25, e25⟩ := hQ25
  have N25 := Fr.app N23 Nq25
  obtain ⟨fs, hr, hrun, hended, hRW⟩ := X25.leaveW (s := s) hS5 (by rw [e25]; exact (Nat.le_trans (Nat.le_trans (Nat.le_trans (Nat.le_trans (Nat.le_trans (Nat.le_trans (Nat.le_trans (Nat.le_refl _) E10.1) Kp11.1) Kp13.1) Kp17.1) Kp19.1) Kp21.1) Kp23.1)) (v := some (.int (1 : Int32))) (fun h => by rw [Bd.returns] at h; cases h)
  refine ⟨_, _, pre0 _ ?_, hrun, hended, _, _, rfl, ?_, hRW.1, hRW.2.1, hRW.2.2.1, hRW.2.2.2.mono (by decide) (by decide)⟩
  · show Steps p.tables e below (s₁.setTop (mkF m 0 #[.val (.int ja), .val (.int jb), .unset, .unset, .unset, .unset, .unset, .unset] [])) _
    refine stp _ ?_
    show Steps p.tables e below (s₁.setTop (mkF m 20 #[.val (.int ja), .val (.int jb), .val (.int kk), .unset, .unset, .unset, .unset, .unset] [])) _
    refine XS.iloadN X0.here hx rfl (hb hby at_20) rfl ?_
    show Steps p.tables e below (s₁.setTop (mkF m 21 #[.val (.int ja), .val (.int jb), .val (.int kk), .unset, .unset, .unset, .unset, .unset] [(.int jb)])) _
    refine XS.bipush X0.here hx rfl (hb hby at_21) ?_
    show Steps p.tables e below (s₁.setTop (mkF m 23 #[.val (.int ja), .val (.int jb), .val (.int kk), .unset, .unset, .unset, .unset, .unset] [(.int (7 : Int32)), (.int jb)])) _
    refine XS.iand X0.here hx rfl (hb hby at_23) rfl ?_
    show Steps p.tables e below (s₁.setTop (mkF m 24 #[.val (.int ja), .val (.int jb), .val (.int kk), .unset, .unset, .unset, .unset, .unset] [(.int (jb &&& (7 : Int32)))])) _
    rw [hn]
    show Steps p.tables e below (s₁.setTop (mkF m 24 #[.val (.int ja), .val (.int jb), .val (.int kk), .unset, .unset, .unset, .unset, .unset] [(.int (5 : Int32))])) _
    refine XS.istoreN X0.here hx rfl (hb hby at_24) rfl (l' := #[.val (.int ja), .val (.int jb), .val (.int kk), .val (.int (5 : Int32)), .unset, .unset, .unset, .unset]) rfl ?_
    show Steps p.tables e below (s₁.setTop (mkF m 25 #[.val (.int ja), .val (.int jb), .val (.int kk), .val (.int (5 : Int32)), .unset, .unset, .unset, .unset] [])) _
    refine st1 _ ?_
    show Steps p.tables e below (T1.setTop (mkF m 28 #[.val (.int ja), .val (.int jb), .val (.int kk), .val (.int (5 : Int32)), .unset, .unset, .unset, .unset] [(.ref b1)])) _
    refine XS.dup X1.here hx rfl (hb hby at_28) rfl rfl ?_
    show Steps p.tables e below (T1.setTop (mkF m 29 #[.val (.int ja), .val (.int jb), .val (.int kk), .val (.int (5 : Int32)), .unset, .unset, .unset, .unset] [(.ref b1), (.ref b1)])) _
    refine XS.iloadN X1.here hx rfl (hb hby at_29) rfl ?_
    show Steps p.tables e below (T1.setTop (mkF m 30 #[.val (.int ja), .val (.int jb), .val (.int kk), .val (.int (5 : Int32)), .unset, .unset, .unset, .unset] [(.int kk), (.ref b1), (.ref b1)])) _
    refine st2.trans ?_
    show Steps p.tables e below (T2.setTop (mkF m 33 #[.val (.int ja), .val (.int jb), .val (.int kk), .val (.int (5 : Int32)), .unset, .unset, .unset, .unset] [(.ref b1)])) _
    refine XS.astore X2.here hx rfl (hb hby at_33) rfl rfl (l' := #[.val (.int ja), .val (.int jb), .val (.int kk), .val (.int (5 : Int32)), .val (.ref b1), .unset, .unset, .unset]) rfl ?_
    show Steps p.tables e below (T2.setTop (mkF m 35 #[.val (.int ja), .val (.int jb), .val (.int kk), .val (.int (5 : Int32)), .val (.ref b1), .unset, .unset, .unset] [])) _
    refine st3 _ ?_
    show Steps p.tables e below (T3.setTop (mkF m 38 #[.val (.int ja), .val (.int jb), .val (.int kk), .val (.int (5 : Int32)), .val (.ref b1), .unset, .unset, .unset] [(.ref b3)])) _
    refine XS.dup X3.here hx rfl (hb hby at_38) rfl rfl ?_
    show Steps p.tables e below (T3.setTop (mkF m 39 #[.val (.int ja), .val (.int jb), .val (.int kk), .val (.int (5 : Int32)), .val (.ref b1), .unset, .unset, .unset] [(.ref b3), (.ref b3)])) _
    refine XS.iconst X3.here hx rfl (hb hby at_39) ?_
    show Steps p.tables e below (T3.setTop (mkF m 40 #[.val (.int ja), .val (.int jb), .val (.int kk), .val (.int (5 : Int32)), .val (.ref b1), .unset, .unset, .unset] [(.int (0 : Int32)), (.ref b3), (.ref b3)])) _
    refine st4 _ ?_
    show Steps p.tables e below (T4.setTop (mkF m 42 #[.val (.int ja), .val (.int jb), .val (.int kk), .val (.int (5 : Int32)), .val (.ref b1), .unset, .unset, .unset] [(.ref a4), (.int (0 : Int32)), (.ref b3), (.ref b3)])) _
    refine XS.dconst1 X4.here hx rfl (hb hby at_42) (v := 4607182418800017408) rfl ?_
    show Steps p.tables e below (T4.setTop (mkF m 43 #[.val (.int ja), .val (.int jb), .val (.int kk), .val (.int (5 : Int32)), .val (.ref b1), .unset, .unset, .unset] [(.double 4607182418800017408), (.ref a4), (.int (0 : Int32)), (.ref b3), (.ref b3)])) _
    refine st5.trans ?_
    show Steps p.tables e below (T5.setTop (mkF m 46 #[.val (.int ja), .val (.int jb), .val (.int kk), .val (.int (5 : Int32)), .val (.ref b1), .unset, .unset, .unset] [(.ref b3)])) _
    refine XS.astore X5.here hx rfl (hb hby at_46) rfl rfl (l' := #[.val (.int ja), .val (.int jb), .val (.int kk), .val (.int (5 : Int32)), .val (.ref b1), .val (.ref b3), .unset, .unset]) rfl ?_
    show Steps p.tables e below (T5.setTop (mkF m 48 #[.val (.int ja), .val (.int jb), .val (.int kk), .val (.int (5 : Int32)), .val (.ref b1), .val (.ref b3), .unset, .unset] [])) _
    refine st10 _ ?_
    show Steps p.tables e below (T10.setTop (mkF m 51 #[.val (.int ja), .val (.int jb), .val (.int kk), .val (.int (5 : Int32)), .val (.ref b1), .val (.ref b3), .unset, .unset] [(.ref b10)])) _
    refine XS.dup X10.here hx rfl (hb hby at_51) rfl rfl ?_
    show Steps p.tables e below (T10.setTop (mkF m 52 #[.val (.int ja), .val (.int jb), .val (.int kk), .val (.int (5 : Int32)), .val (.ref b1), .val (.ref b3), .unset, .unset] [(.ref b10), (.ref b10)])) _
    refine st11.trans ?_
    show Steps p.tables e below (T11.setTop (mkF m 55 #[.val (.int ja), .val (.int jb), .val (.int kk), .val (.int (5 : Int32)), .val (.ref b1), .val (.ref b3), .unset, .unset] [(.ref b10)])) _
    refine XS.astore X11.here hx rfl (hb hby at_55) rfl rfl (l' := #[.val (.int ja), .val (.int jb), .val (.int kk), .val (.int (5 : Int32)), .val (.ref b1), .val (.ref b3), .val (.ref b10), .unset]) rfl ?_
    show Steps p.tables e below (T11.setTop (mkF m 57 #[.val (.int ja), .val (.int jb), .val (.int kk), .val (.int (5 : Int32)), .val (.ref b1), .val (.ref b3), .val (.ref b10), .unset] [])) _
    refine XS.iloadN X11.here hx rfl (hb hby at_57) rfl ?_
    show Steps p.tables e below (T11.setTop (mkF m 58 #[.val (.int ja), .val (.int jb), .val (.int kk), .val (.int (5 : Int32)), .val (.ref b1), .val (.ref b3), .val (.ref b10), .unset] [(.int (5 : Int32))])) _
    refine XS.ifNo X11.here hx rfl (hb hby at_58) rfl ((if0 _ _).trans (tlt (by decide : (0 : Int32) < (5 : Int32))).2.2.2) ?_
    show Steps p.tables e below (T11.setTop (mkF m 61 #[.val (.int ja), .val (.int jb), .val (.int kk), .val (.int (5 : Int32)), .val (.ref b1), .val (.ref b3), .val (.ref b10), .unset] [])) _
    refine XS.aload X11.here hx rfl (hb hby at_61) rfl rfl ?_
    show Steps p.tables e below (T11.setTop (mkF m 63 #[.val (.int ja), .val (.int jb), .val (.int kk), .val (.int (5 : Int32)), .val (.ref b1), .val (.ref b3), .val (.ref b10), .unset] [(.ref b10)])) _
    refine XS.aload X11.here hx rfl (hb hby at_63) rfl rfl ?_
    show Steps p.tables e below (T11.setTop (mkF m 65 #[.val (.int ja), .val (.int jb), .val (.int kk), .val (.int (5 : Int32)), .val (.ref b1), .val (.ref b3), .val (.ref b10), .unset] [(.ref b3), (.ref b10)])) _
    refine st13.trans ?_
    show Steps p.tables e below (T13.setTop (mkF m 68 #[.val (.int ja), .val (.int jb), .val (.int kk), .val (.int (5 : Int32)), .val (.ref b1), .val (.ref b3), .val (.ref b10), .unset] [(.int (1 : Int32))])) _
    refine XS.pop X13.here hx rfl (hb hby at_68) rfl rfl ?_
    show Steps p.tables e below (T13.setTop (mkF m 69 #[.val (.int ja), .val (.int jb), .val (.int kk), .val (.int (5 : Int32)), .val (.ref b1), .val (.ref b3), .val (.ref b10), .unset] [])) _
    refine XS.iloadN X13.here hx rfl (hb hby at_69) rfl ?_
    show Steps p.tables e below (T13.setTop (mkF m 70 #[.val (.int ja), .val (.int jb), .val (.int kk), .val (.int (5 : Int32)), .val (.ref b1), .val (.ref b3), .val (.ref b10), .unset] [(.int (5 : Int32))])) _
    refine XS.iconst X13.here hx rfl (hb hby at_70) ?_
    show Steps p.tables e below (T13.setTop (mkF m 71 #[.val (.int ja), .val (.int jb), .val (.int kk), .val (.int (5 : Int32)), .val (.ref b1), .val (.ref b3), .val (.ref b10), .unset] [(.int (1 : Int32)), (.int (5 : Int32))])) _
    refine XS.icmpNo X13.here hx rfl (hb hby at_71) rfl (tlt (by decide : (1 : Int32) < (5 : Int32))).2.2.2 ?_
    show Steps p.tables e below (T13.setTop (mkF m 74 #[.val (.int ja), .val (.int jb), .val (.int kk), .val (.int (5 : Int32)), .val (.ref b1), .val (.ref b3), .val (.ref b10), .unset] [])) _
    refine XS.aload X13.here hx rfl (hb hby at_74) rfl rfl ?_
    show Steps p.tables e below (T13.setTop (mkF m 76 #[.val (.int ja), .val (.int jb), .val (.int kk), .val (.int (5 : Int32)), .val (.ref b1), .val (.ref b3), .val (.ref b10), .unset] [(.ref b10)])) _
    refine XS.aload X13.here hx rfl (hb hby at_76) rfl rfl ?_
    show Steps p.tables e below (T13.setTop (mkF m 78 #[.val (.int ja), .val (.int jb), .val (.int kk), .val (.int (5 : Int32)), .val (.ref b1), .val (.ref b3), .val (.ref b10), .unset] [(.ref b3), (.ref b10)])) _
    refine st17.trans ?_
    show Steps p.tables e below (T17.setTop (mkF m 81 #[.val (.int ja), .val (.int jb), .val (.int kk), .val (.int (5 : Int32)), .val (.ref b1), .val (.ref b3), .val (.ref b10), .unset] [(.int (1 : Int32))])) _
    refine XS.pop X17.here hx rfl (hb hby at_81) rfl rfl ?_
    show Steps p.tables e below (T17.setTop (mkF m 82 #[.val (.int ja), .val (.int jb), .val (.int kk), .val (.int (5 : Int32)), .val (.ref b1), .val (.ref b3), .val (.ref b10), .unset] [])) _
    refine XS.iloadN X17.here hx rfl (hb hby at_82) rfl ?_
    show Steps p.tables e below (T17.setTop (mkF m 83 #[.val (.int ja), .val (.int jb), .val (.int kk), .val (.int (5 : Int32)), .val (.ref b1), .val (.ref b3), .val (.ref b10), .unset] [(.int (5 : Int32))])) _
    refine XS.iconst X17.here hx rfl (hb hby at_83) ?_
    show Steps p.tables e below (T17.setTop (mkF m 84 #[.val (.int ja), .val (.int jb), .val (.int kk), .val (.int (5 : Int32)), .val (.ref b1), .val (.ref b3), .val (.ref b10), .unset] [(.int (2 : Int32)), (.int (5 : Int32))])) _
    refine XS.icmpNo X17.here hx rfl (hb hby at_84) rfl (tlt (by decide : (2 : Int32) < (5 : Int32))).2.2.2 ?_
    show Steps p.tables e below (T17.setTop (mkF m 87 #[.val (.int ja), .val (.int jb), .val (.int kk), .val (.int (5 : Int32)), .val (.ref b1), .val (.ref b3), .val (.ref b10), .unset] [])) _
    refine XS.aload X17.here hx rfl (hb hby at_87) rfl rfl ?_
    show Steps p.tables e below (T17.setTop (mkF m 89 #[.val (.int ja), .val (.int jb), .val (.int kk), .val (.int (5 : Int32)), .val (.ref b1), .val (.ref b3), .val (.ref b10), .unset] [(.ref b10)])) _
    refine XS.aload X17.here hx rfl (hb hby at_89) rfl rfl ?_
    show Steps p.tables e below (T17.setTop (mkF m 91 #[.val (.int ja), .val (.int jb), .val (.int kk), .val (.int (5 : Int32)), .val (.ref b1), .val (.ref b3), .val (.ref b10), .unset] [(.ref b3), (.ref b10)])) _
    refine st19.trans ?_
    show Steps p.tables e below (T19.setTop (mkF m 94 #[.val (.int ja), .val (.int jb), .val (.int kk), .val (.int (5 : Int32)), .val (.ref b1), .val (.ref b3), .val (.ref b10), .unset] [(.int (1 : Int32))])) _
    refine XS.pop X19.here hx rfl (hb hby at_94) rfl rfl ?_
    show Steps p.tables e below (T19.setTop (mkF m 95 #[.val (.int ja), .val (.int jb), .val (.int kk), .val (.int (5 : Int32)), .val (.ref b1), .val (.ref b3), .val (.ref b10), .unset] [])) _
    refine XS.iloadN X19.here hx rfl (hb hby at_95) rfl ?_
    show Steps p.tables e below (T19.setTop (mkF m 96 #[.val (.int ja), .val (.int jb), .val (.int kk), .val (.int (5 : Int32)), .val (.ref b1), .val (.ref b3), .val (.ref b10), .unset] [(.int (5 : Int32))])) _
    refine XS.iconst X19.here hx rfl (hb hby at_96) ?_
    show Steps p.tables e below (T19.setTop (mkF m 97 #[.val (.int ja), .val (.int jb), .val (.int kk), .val (.int (5 : Int32)), .val (.ref b1), .val (.ref b3), .val (.ref b10), .unset] [(.int (3 : Int32)), (.int (5 : Int32))])) _
    refine XS.icmpNo X19.here hx rfl (hb hby at_97) rfl (tlt (by decide : (3 : Int32) < (5 : Int32))).2.2.2 ?_
    show Steps p.tables e below (T19.setTop (mkF m 100 #[.val (.int ja), .val (.int jb), .val (.int kk), .val (.int (5 : Int32)), .val (.ref b1), .val (.ref b3), .val (.ref b10), .unset] [])) _
    refine XS.aload X19.here hx rfl (hb hby at_100) rfl rfl ?_
    show Steps p.tables e below (T19.setTop (mkF m 102 #[.val (.int ja), .val (.int jb), .val (.int kk), .val (.int (5 : Int32)), .val (.ref b1), .val (.ref b3), .val (.ref b10), .unset] [(.ref b10)])) _
    refine XS.aload X19.here hx rfl (hb hby at_102) rfl rfl ?_
    show Steps p.tables e below (T19.setTop (mkF m 104 #[.val (.int ja), .val (.int jb), .val (.int kk), .val (.int (5 : Int32)), .val (.ref b1), .val (.ref b3), .val (.ref b10), .unset] [(.ref b3), (.ref b10)])) _
    refine st21.trans ?_
    show Steps p.tables e below (T21.setTop (mkF m 107 #[.val (.int ja), .val (.int jb), .val (.int kk), .val (.int (5 : Int32)), .val (.ref b1), .val (.ref b3), .val (.ref b10), .unset] [(.int (1 : Int32))])) _
    refine XS.pop X21.here hx rfl (hb hby at_107) rfl rfl ?_
    show Steps p.tables e below (T21.setTop (mkF m 108 #[.val (.int ja), .val (.int jb), .val (.int kk), .val (.int (5 : Int32)), .val (.ref b1), .val (.ref b3), .val (.ref b10), .unset] [])) _
    refine XS.iloadN X21.here hx rfl (hb hby at_108) rfl ?_
    show Steps p.tables e below (T21.setTop (mkF m 109 #[.val (.int ja), .val (.int jb), .val (.int kk), .val (.int (5 : Int32)), .val (.ref b1), .val (.ref b3), .val (.ref b10), .unset] [(.int (5 : Int32))])) _
    refine XS.iconst X21.here hx rfl (hb hby at_109) ?_
    show Steps p.tables e below (T21.setTop (mkF m 110 #[.val (.int ja), .val (.int jb), .val (.int kk), .val (.int (5 : Int32)), .val (.ref b1), .val (.ref b3), .val (.ref b10), .unset] [(.int (4 : Int32)), (.int (5 : Int32))])) _
    refine XS.icmpNo X21.here hx rfl (hb hby at_110) rfl (tlt (by decide : (4 : Int32) < (5 : Int32))).2.2.2 ?_
    show Steps p.tables e below (T21.setTop (mkF m 113 #[.val (.int ja), .val (.int jb), .val (.int kk), .val (.int (5 : Int32)), .val (.ref b1), .val (.ref b3), .val (.ref b10), .unset] [])) _
    refine XS.aload X21.here hx rfl (hb hby at_113) rfl rfl ?_
    show Steps p.tables e below (T21.setTop (mkF m 115 #[.val (.int ja), .val (.int jb), .val (.int kk), .val (.int (5 : Int32)), .val (.ref b1), .val (.ref b3), .val (.ref b10), .unset] [(.ref b10)])) _
    refine XS.aload X21.here hx rfl (hb hby at_115) rfl rfl ?_
    show Steps p.tables e below (T21.setTop (mkF m 117 #[.val (.int ja), .val (.int jb), .val (.int kk), .val (.int (5 : Int32)), .val (.ref b1), .val (.ref b3), .val (.ref b10), .unset] [(.ref b3), (.ref b10)])) _
    refine st23.trans ?_
    show Steps p.tables e below (T23.setTop (mkF m 120 #[.val (.int ja), .val (.int jb), .val (.int kk), .val (.int (5 : Int32)), .val (.ref b1), .val (.ref b3), .val (.ref b10), .unset] [(.int (1 : Int32))])) _
    refine XS.pop X23.here hx rfl (hb hby at_120) rfl rfl ?_
    show Steps p.tables e below (T23.setTop (mkF m 121 #[.val (.int ja), .val (.int jb), .val (.int kk), .val (.int (5 : Int32)), .val (.ref b1), .val (.ref b3), .val (.ref b10), .unset] [])) _
    refine XS.iloadN X23.here hx rfl (hb hby at_121) rfl ?_
    show Steps p.tables e below (T23.setTop (mkF m 122 #[.val (.int ja), .val (.int jb), .val (.int kk), .val (.int (5 : Int32)), .val (.ref b1), .val (.ref b3), .val (.ref b10), .unset] [(.int (5 : Int32))])) _
    refine XS.iconst X23.here hx rfl (hb hby at_122) ?_
    show Steps p.tables e below (T23.setTop (mkF m 123 #[.val (.int ja), .val (.int jb), .val (.int kk), .val (.int (5 : Int32)), .val (.ref b1), .val (.ref b3), .val (.ref b10), .unset] [(.int (5 : Int32)), (.int (5 : Int32))])) _
    refine XS.icmpYes X23.here hx rfl (pc0 := 123) (pc' := 134) rfl (hb hby at_123) rfl (flt (by decide : ¬ ((5 : Int32) < (5 : Int32)))).2.2.2 (by decide) (by decide) ?_
    show Steps p.tables e below (T23.setTop (mkF m 134 #[.val (.int ja), .val (.int jb), .val (.int kk), .val (.int (5 : Int32)), .val (.ref b1), .val (.ref b3), .val (.ref b10), .unset] [])) _
    refine XS.iloadN X23.here hx rfl (hb hby at_134) rfl ?_
    show Steps p.tables e below (T23.setTop (mkF m 135 #[.val (.int ja), .val (.int jb), .val (.int kk), .val (.int (5 : Int32)), .val (.ref b1), .val (.ref b3), .val (.ref b10), .unset] [(.int (5 : Int32))])) _
    refine XS.bipush X23.here hx rfl (hb hby at_135) ?_
    show Steps p.tables e below (T23.setTop (mkF m 137 #[.val (.int ja), .val (.int jb), .val (.int kk), .val (.int (5 : Int32)), .val (.ref b1), .val (.ref b3), .val (.ref b10), .unset] [(.int (6 : Int32)), (.int (5 : Int32))])) _
    refine XS.icmpYes X23.here hx rfl (pc0 := 137) (pc' := 148) rfl (hb hby at_137) rfl (flt (by decide : ¬ ((6 : Int32) < (5 : Int32)))).2.2.2 (by decide) (by decide) ?_
    show Steps p.tables e below (T23.setTop (mkF m 148 #[.val (.int ja), .val (.int jb), .val (.int kk), .val (.int (5 : Int32)), .val (.ref b1), .val (.ref b3), .val (.ref b10), .unset] [])) _
    refine XS.iloadN X23.here hx rfl (hb hby at_148) rfl ?_
    show Steps p.tables e below (T23.setTop (mkF m 149 #[.val (.int ja), .val (.int jb), .val (.int kk), .val (.int (5 : Int32)), .val (.ref b1), .val (.ref b3), .val (.ref b10), .unset] [(.int (5 : Int32))])) _
    refine XS.iloadN X23.here hx rfl (hb hby at_149) rfl ?_
    show Steps p.tables e below (T23.setTop (mkF m 150 #[.val (.int ja), .val (.int jb), .val (.int kk), .val (.int (5 : Int32)), .val (.ref b1), .val (.ref b3), .val (.ref b10), .unset] [(.int kk), (.int (5 : Int32))])) _
    refine XS.icmpNo X23.here hx rfl (hb hby at_150) rfl (flt hrd).2.2.1 ?_
    show Steps p.tables e below (T23.setTop (mkF m 153 #[.val (.int ja), .val (.int jb), .val (.int kk), .val (.int (5 : Int32)), .val (.ref b1), .val (.ref b3), .val (.ref b10), .unset] [])) _
    refine XS.iconst X23.here hx rfl (hb hby at_153) ?_
    show Steps p.tables e below (T23.setTop (mkF m 154 #[.val (.int ja), .val (.int jb), .val (.int kk), .val (.int (5 : Int32)), .val (.ref b1), .val (.ref b3), .val (.ref b10), .unset] [(.int (1 : Int32))])) _
    refine XS.goto X23.here hx rfl (pc0 := 154) (pc' := 158) rfl (hb hby at_154) (by decide) (by decide) ?_
    show Steps p.tables e below (T23.setTop (mkF m 158 #[.val (.int ja), .val (.int jb), .val (.int kk), .val (.int (5 : Int32)), .val (.ref b1), .val (.ref b3), .val (.ref b10), .unset] [(.int (1 : Int32))])) _
    refine XS.istore X23.here hx rfl (hb hby at_158) rfl (l' := #[.val (.int ja), .val (.int jb), .val (.int kk), .val (.int (5 : Int32)), .val (.ref b1), .val (.ref b3), .val (.ref b10), .val (.int (1 : Int32))]) rfl ?_
    show Steps p.tables e below (T23.setTop (mkF m 160 #[.val (.int ja), .val (.int jb), .val (.int kk), .val (.int (5 : Int32)), .val (.ref b1), .val (.ref b3), .val (.ref b10), .val (.int (1 : Int32))] [])) _
    refine XS.aload X23.here hx rfl (hb hby at_160) rfl rfl ?_
    show Steps p.tables e below (T23.setTop (mkF m 162 #[.val (.int ja), .val (.int jb), .val (.int kk), .val (.int (5 : Int32)), .val (.ref b1), .val (.ref b3), .val (.ref b10), .val (.int (1 : Int32))] [(.ref b1)])) _
    refine XS.aload X23.here hx rfl (hb hby at_162) rfl rfl ?_
    show Steps p.tables e below (T23.setTop (mkF m 164 #[.val (.int ja), .val (.int jb), .val (.int kk), .val (.int (5 : Int32)), .val (.ref b1), .val (.ref b3), .val (.ref b10), .val (.int (1 : Int32))] [(.ref b10), (.ref b1)])) _
    refine st25.trans ?_
    show Steps p.tables e below (T25.setTop (mkF m 167 #[.val (.int ja), .val (.int jb), .val (.int kk), .val (.int (5 : Int32)), .val (.ref b1), .val (.ref b3), .val (.ref b10), .val (.int (1 : Int32))] [(.int (1 : Int32))])) _
    refine XS.iload X25.here hx rfl (hb hby at_167) rfl ?_
    show Steps p.tables e below (T25.setTop (mkF m 169 #[.val (.int ja), .val (.int jb), .val (.int kk), .val (.int (5 : Int32)), .val (.ref b1), .val (.ref b3), .val (.ref b10), .val (.int (1 : Int32))] [(.int (1 : Int32)), (.int (1 : Int32))])) _
    refine XS.icmpNo X25.here hx rfl (hb hby at_169) rfl (teq (rfl : (1 : Int32) = (1 : Int32))).2 ?_
    show Steps p.tables e below (T25.setTop (mkF m 172 #[.val (.int ja), .val (.int jb), .val (.int kk), .val (.int (5 : Int32)), .val (.ref b1), .val (.ref b3), .val (.ref b10), .val (.int (1 : Int32))] [])) _
    refine XS.iconst X25.here hx rfl (hb hby at_172) ?_
    show Steps p.tables e below (T25.setTop (mkF m 173 #[.val (.int ja), .val (.int jb), .val (.int kk), .val (.int (5 : Int32)), .val (.ref b1), .val (.ref b3), .val (.ref b10), .val (.int (1 : Int32))] [(.int (1 : Int32))])) _
    refine XS.goto X25.here hx rfl (pc0 := 173) (pc' := 177) rfl (hb hby at_173) (by decide) (by decide) ?_
    show Steps p.tables e below (T25.setTop (mkF m 177 #[.val (.int ja), .val (.int jb), .val (.int kk), .val (.int (5 : Int32)), .val (.ref b1), .val (.ref b3), .val (.ref b10), .val (.int (1 : Int32))] [(.int (1 : Int32))])) _
    exact retN X25 hx (t := .boolean) Bd.returns (by simp) (hb hby at_177) hr
  · show Q_rm0_5f Z ja jb kk de kd h0 n0 _ T25.heap _
    rw [e25]
    exact ⟨rfl, N25⟩
def Q_rm0_6t (Z : State) (ja : Int32) (jb : Int32) (kk : Int32) (de : Addr) (kd : ClassId) (h0 : Heap) (n0 : Nat) (v : Option Value) (h : Heap) (L : List Loc) : Prop := v = some (.int (1 : Int32)) ∧ Fr n0 L
theorem ef_rm0_6t (m : MethodId) (ja : Int32) (jb : Int32) : entryFrame m #[(.int ja), (.int jb)] maxLocals = mkF m 0 #[.val (.int ja), .val (.int jb), .unset, .unset, .unset, .unset, .unset, .unset] [] := by first | (simp [entryFrame, mkF, argsToLocals, Value.category, maxLocals]; done) | rfl
set_option maxRecDepth 65536 in
set_option maxHeartbeats 40000000 in
theorem rm0_6t (l : Launch) (Z : State) (a0 : Array Value) (hw : ∀ d ∈ tables_1, d.before a0 Z = true) (ws : List Jvm.Cond) (ja : Int32) (jb : Int32) (kk : Int32) (de : Addr) (kd : ClassId) (h0 : Heap) (n0 : Nat) (Z0 : n0 ≤ h0.size) (hwS : ∀ a ∈ Bundle.stringAtoms, a.before a0 Z = true) (hn0 : n0 = h0.size) (hcn : Jvm.Lit.constHeld Z "com/example/sortition/sortition/SlotsAllowsPinLaw" 15) (hcw : Jvm.Lit.compactW.before a0 Z = true) (S_DE : Sta Z h0 "java/util/ArrayList" "DEFAULTCAPACITY_EMPTY_ELEMENTDATA" "[Ljava/lang/Object;" (.ref de)) (V_de : Arv Z h0 de kd (.object "java/lang/Object") (0 : Int32) [] .null) (hkk : (own_k ja jb) = kk) (gkk : ¬ (kk < (0 : Int32))) (hn : (jb &&& (7 : Int32)) = (6 : Int32)) (hrd : kk < (6 : Int32)) :
    MetFree l x (head1 (Jvm.Cond.code x code maxLocals ret :: ws) room_1) (fun a U => a = #[(.int ja), (.int jb)] ∧ Z.Warmed39 U.vm ∧ U.heap = h0 ∧ U.vm.interned = Z.vm.interned ∧ (∀ (b : Addr) (cl : Cell), Z.heap[b]? = some cl → U.heap[b]? = some cl)) (fun _ _ _ _ _ => True) (fun _ U o U' => ∃ v L, o = .returned v ∧ Q_rm0_6t Z ja jb kk de kd h0 n0 v U'.heap L ∧ ReturnedEndW U o U' L room_1.cells room_1.slots) := by
  refine MetFree.of_bodySF (plainFor_of_name pn_8) hisR ?_
  intro p e s m args below meth c s₁ Bd hml0 hP hK
  obtain ⟨rfl, hZ, hh, hI0, hK0⟩ := hP
  have hx := Bd.exec
  have hby := Bd.bytes
  have hml : c.maxLocals = 8 := hml0
  have hown : s.vm.findClass "com/example/sortition/sortition/SlotsAllowsPinLaw" = some m.cls := findClass_of_methodNamed Bd.named
  have hnm := (name_of_methodNamed Bd.named Bd.method).1
  have X0 : Stand p l e room_1 s m #[(.int ja), (.int jb)] below meth c s₁ [] 0 0 := Stand.of_body Bd
  have e0 : s₁.heap = h0 := by rw [← hh, Bd.state]; rfl
  have N0 := Fr.nil n0
  have hS0 := (State.WarmedH.refl s).since 0
  have pre0 : ∀ t, Steps p.tables e below (s₁.setTop (mkF m 0 #[.val (.int ja), .val (.int jb), .unset, .unset, .unset, .unset, .unset, .unset] [])) t → Steps p.tables e below (s₁.setTop (entryFrame m #[(.int ja), (.int jb)] maxLocals)) t := fun t k => castTop (ef_rm0_6t m ja jb) k
  have stp := own_pre ja jb X0 hx hZ hw hby hown
  rw [hkk] at stp
  obtain ⟨T1, h1, X1, e1, E1, A1, D1, -, st1⟩ := newO X0 hx hZ hown (ow hw 0 rfl) (ow hw 1 rfl) (ow hw 2 rfl) e0 (g := (mkF m 25 #[.val (.int ja), .val (.int jb), .val (.int kk), .val (.int (6 : Int32)), .unset, .unset, .unset, .unset] [])) rfl (hb hby at_25) (by decide) (by decide)
  obtain ⟨b1, g1⟩ : ∃ z, z = h0.size := ⟨_, rfl⟩
  rw [← g1] at A1 D1 st1
  have F1_3 : Fld Z h1 b1 "com/example/sortition/sortition/Slots" "size" "I" (.int (0 : Int32)) := D1 (Or.inr (ow hw 15 rfl)) (ty := .int) (by decide)
  obtain ⟨_, _, ⟨T2, L2, k2, n2⟩, -, X2, ⟨Lc2, hQ2, l2, y2, z2⟩, st2⟩ := X1.specialBack hx (y := (⟨"com/example/sortition/sortition/Slots", "<init>", "(I)V"⟩ : MethodName)) rfl hown (mvT hZ (ow hw 3 rfl)) (mvT hZ (ow hw 4 rfl)) (mvT hZ (ow hw 5 rfl)) (by decide) (backOf (W := 1) (rmSl l Z a0 hw [] b1 kk (.int (0 : Int32)) h1 n0 (Nat.le_trans Z0 E1.1) gkk F1_3 A1 (Nat.le_trans Z0 (Nat.le_of_eq g1.symm))) hZ (ow hw 5 rfl) (ow hw 2 rfl) (by decide) (by decide)) (g := (mkF m 30 #[.val (.int ja), .val (.int jb), .val (.int kk), .val (.int (6 : Int32)), .unset, .unset, .unset, .unset] [(.int kk), (.ref b1), (.ref b1)])) rfl (by rw [hml]; rfl) (Steps.refl _) (a := b1) (argsL := [(.int kk)]) (rest := [(.ref b1)]) (lenOf pd_8 rfl) rfl (by show 2 * 0 + _ ≤ _; exact Nat.le_of_eq rfl) (hb hby at_30) (fun _ _ => ⟨rfl, e1, (by decide : 1 + 0 ≤ _), (by decide : 1 + 0 ≤ _)⟩)
  dsimp only [Pt.U, Pt.locs, Pt.cells, Pt.slots] at X2 l2 y2 z2 st2 hQ2
  subst l2 y2 z2
  obtain ⟨rfl, Nq2, Kp2, Fq2_0, Fq2_1⟩ := hQ2
  have N2 := Fr.app N0 Nq2
  obtain ⟨T3, h3, X3, e3, E3, A3, D3, -, st3⟩ := newO X2 hx hZ hown (ow hw 16 rfl) (ow hw 17 rfl) (ow hw 18 rfl) rfl (g := (mkF m 35 #[.val (.int ja), .val (.int jb), .val (.int kk), .val (.int (6 : Int32)), .val (.ref b1), .unset, .unset, .unset] [])) rfl (hb hby at_35) (by decide) (by decide)
  obtain ⟨b3, g3⟩ : ∃ z, z = T2.heap.size := ⟨_, rfl⟩
  rw [← g3] at A3 D3 st3
  have F3_5 : Fld Z h3 b3 "com/example/sortition/sortition/Element" "index" "I" (.int (0 : Int32)) := D3 (Or.inr (ow hw 44 rfl)) (ty := .int) (by decide)
  have F3_6 : Fld Z h3 b3 "com/example/sortition/sortition/Element" "id" "Ljava/lang/String;" .null := D3 (Or.inr (ow hw 46 rfl)) (ty := (.object "java/lang/String")) (by decide)
  have F3_7 : Fld Z h3 b3 "com/example/sortition/sortition/Element" "value" "D" (.double 0) := D3 (Or.inr (ow hw 48 rfl)) (ty := .double) (by decide)
  obtain ⟨a4, T4, h4, k4, b4, kc4, X4, e4, E4, hS4, hk4, hZ4, hown4, A4, -, Fv4, V4, -, -, -, st4⟩ := ldcSV (s := s) (vm0 := s.vm) X3 hx hZ hown (ow hw 19 rfl) hwS e3 hS0 (Nat.le_trans (Nat.le_trans (Nat.le_trans (Nat.zero_le _) E1.1) Kp2.1) E3.1) (by rw [hh, ← hn0]; exact N2) hK0 (⟨#[], by simpa using hI0, fun q hq => by simp at hq⟩ : IB Z s.vm []) (by simp) hcn hcw (vs := [(.int (120 : Int32))]) (z := (1 : Int32)) ⟨by decide, by decide⟩ (by decide) rfl (g := (mkF m 40 #[.val (.int ja), .val (.int jb), .val (.int kk), .val (.int (6 : Int32)), .val (.ref b1), .unset, .unset, .unset] [(.int (0 : Int32)), (.ref b3), (.ref b3)])) rfl (hb hby at_40) (n := 4) (by decide) (by decide) (by decide) (by decide)
  have f6 : Fld Z h4 b3 "com/example/sortition/sortition/Element" "index" "I" (.int (0 : Int32)) := (F3_5.ext E4)
  have f7 : Exa Z h4 b3 "com/example/sortition/sortition/Element" := (A3.ext E4)
  have f8 : Fld Z h4 b3 "com/example/sortition/sortition/Element" "id" "Ljava/lang/String;" .null := (F3_6.ext E4)
  have f9 : Fld Z h4 b3 "com/example/sortition/sortition/Element" "value" "D" (.double 0) := (F3_7.ext E4)
  obtain ⟨_, _, ⟨T5, L5, k5, n5⟩, -, X5, hSq5, hgq5, ⟨Lc5, hQ5, l5, y5, z5⟩, st5⟩ := X4.specialBackS hx (y := (⟨"com/example/sortition/sortition/Element", "<init>", "(ILjava/lang/String;D)V"⟩ : MethodName)) rfl hown4 (mvT hZ4 (ow hw 27 rfl)) (mvT hZ4 (ow hw 28 rfl)) (mvT hZ4 (ow hw 29 rfl)) (by decide) (backOfS (W := 1) (rmEI l Z a0 hw [] b3 (0 : Int32) a4 4607182418800017408 b4 kc4 [(.int (120 : Int32))] (.int (0 : Int32)) .null (.double 0) h4 n0 (Nat.le_trans (Nat.le_trans (Nat.le_trans (Nat.le_trans Z0 E1.1) Kp2.1) E3.1) E4.1) hwS A4 Fv4 V4 (by first | assumption | decide) (by decide +kernel) (by decide +kernel) own_nn1 f6 f7 (Nat.le_trans (Nat.le_trans (Nat.le_trans Z0 E1.1) Kp2.1) (Nat.le_of_eq g3.symm)) f8 f9) hZ4 (ow hw 29 rfl) (ow hw 18 rfl) (by decide) (by decide)) (g := (mkF m 43 #[.val (.int ja), .val (.int jb), .val (.int kk), .val (.int (6 : Int32)), .val (.ref b1), .unset, .unset, .unset] [(.double 4607182418800017408), (.ref a4), (.int (0 : Int32)), (.ref b3), (.ref b3)])) rfl (by rw [hml]; rfl) (Steps.refl _) (a := b3) (argsL := [(.int (0 : Int32)), (.ref a4), (.double 4607182418800017408)]) (rest := [(.ref b3)]) (lenOf pd_9 rfl) rfl (by show 2 * 0 + _ ≤ _; exact Nat.le_of_eq rfl) (hb hby at_43) (fun _ _ => ⟨rfl, e4, (by decide : 4 + 2 ≤ _), (by decide : 12 + 12 ≤ _)⟩)
  dsimp only [Pt.U, Pt.locs, Pt.cells, Pt.slots] at X5 l5 y5 z5 st5 hQ5 hSq5 hgq5
  subst l5 y5 z5
  obtain ⟨X5, hS5, hZ5, hown5⟩ := rebS (s := s) (vm0 := T4.vm) hS4 (by rw [e4]; exact hk4) X5 hSq5 hgq5 hZ4 hown4
  obtain ⟨rfl, Nq5, Kp5, Fq5_0, Fq5_1, Fq5_2⟩ := hQ5
  have N5 := Fr.app N2 Nq5
  obtain ⟨T10, h10, X10, e10, E10, A10, D10, -, st10⟩ := newO X5 hx hZ5 hown5 (ow hw 49 rfl) (ow hw 50 rfl) (ow hw 51 rfl) rfl (g := (mkF m 48 #[.val (.int ja), .val (.int jb), .val (.int kk), .val (.int (6 : Int32)), .val (.ref b1), .val (.ref b3), .unset, .unset] [])) rfl (hb hby at_48) (by decide) (by decide)
  obtain ⟨b10, g10⟩ : ∃ z, z = T5.heap.size := ⟨_, rfl⟩
  rw [← g10] at A10 D10 st10
  have F10_12 : Fld Z h10 b10 "java/util/AbstractList" "modCount" "I" (.int (0 : Int32)) := D10 (Or.inl (ow hw 69 rfl)) (ty := .int) (by decide)
  have F10_13 : Fld Z h10 b10 "java/util/ArrayList" "elementData" "[Ljava/lang/Object;" .null := D10 (Or.inl (ow hw 72 rfl)) (ty := (.array (.object "java/lang/Object"))) (by decide)
  have F10_14 : Fld Z h10 b10 "java/util/ArrayList" "size" "I" (.int (0 : Int32)) := D10 (Or.inl (ow hw 81 rfl)) (ty := .int) (by decide)
  have f12 : Sta Z h10 "java/util/ArrayList" "DEFAULTCAPACITY_EMPTY_ELEMENTDATA" "[Ljava/lang/Object;" (.ref de) := ((Sta_keep (((Sta_keep (S_DE.ext E1) Kp2 (nsS A1.nostat ns0)).ext E3).ext E4) Kp5 (nsS f7.nostat ns0)).ext E10)
  obtain ⟨_, _, ⟨T11, L11, k11, n11⟩, -, X11, ⟨Lc11, hQ11, l11, y11, z11⟩, st11⟩ := X10.specialBack hx (y := (⟨"java/util/ArrayList", "<init>", "()V"⟩ : MethodName)) rfl hown5 (mvT hZ5 (ow hw 52 rfl)) (mvT hZ5 (ow hw 53 rfl)) (mvT hZ5 (ow hw 54 rfl)) (by decide) (backOf (W := 1) (rmAL l Z a0 hw [] b10 de (.int (0 : Int32)) .null h10 n0 (Nat.le_trans (Nat.le_trans (Nat.le_trans (Nat.le_trans (Nat.le_trans (Nat.le_trans Z0 E1.1) Kp2.1) E3.1) E4.1) Kp5.1) E10.1) A10 F10_12 F10_13 f12 F10_14 (Nat.le_trans (Nat.le_trans (Nat.le_trans (Nat.le_trans (Nat.le_trans (Nat.le_trans Z0 E1.1) Kp2.1) E3.1) E4.1) Kp5.1) (Nat.le_of_eq g10.symm))) hZ5 (ow hw 54 rfl) (ow hw 51 rfl) (by decide) (by decide)) (g := (mkF m 52 #[.val (.int ja), .val (.int jb), .val (.int kk), .val (.int (6 : Int32)), .val (.ref b1), .val (.ref b3), .unset, .unset] [(.ref b10), (.ref b10)])) rfl (by rw [hml]; rfl) (Steps.refl _) (a := b10) (argsL := []) (rest := [(.ref b10)]) (lenOf pd_0 rfl) rfl (by show 2 * 0 + _ ≤ _; exact Nat.le_of_eq rfl) (hb hby at_52) (fun _ _ => ⟨rfl, e10, (by decide : 7 + 0 ≤ _), (by decide : 27 + 0 ≤ _)⟩)
  dsimp only [Pt.U, Pt.locs, Pt.cells, Pt.slots] at X11 l11 y11 z11 st11 hQ11
  subst l11 y11 z11
  obtain ⟨rfl, Nq11, Kp11, Fq11_0, Fq11_1, Fq11_2, Fq11_3⟩ := hQ11
  have N11 := Fr.app N5 Nq11
  have f14 : Arv Z T11.heap de kd (.object "java/lang/Object") (0 : Int32) [] .null := (((((((V_de.ext E1).keep Kp2 (ninS (Nat.ne_of_lt (Nat.lt_of_lt_of_le V_de.lt (Nat.le_of_eq g1.symm))) nin0)).ext E3).ext E4).keep Kp5 (ninS (Nat.ne_of_lt (Nat.lt_of_lt_of_le ((V_de.ext E1).keep Kp2 (ninS (Nat.ne_of_lt (Nat.lt_of_lt_of_le V_de.lt (Nat.le_of_eq g1.symm))) nin0)).lt (Nat.le_of_eq g3.symm))) nin0)).ext E10).keep Kp11 (ninS (Nat.ne_of_lt (Nat.lt_of_lt_of_le (((((V_de.ext E1).keep Kp2 (ninS (Nat.ne_of_lt (Nat.lt_of_lt_of_le V_de.lt (Nat.le_of_eq g1.symm))) nin0)).ext E3).ext E4).keep Kp5 (ninS (Nat.ne_of_lt (Nat.lt_of_lt_of_le ((V_de.ext E1).keep Kp2 (ninS (Nat.ne_of_lt (Nat.lt_of_lt_of_le V_de.lt (Nat.le_of_eq g1.symm))) nin0)).lt (Nat.le_of_eq g3.symm))) nin0)).lt (Nat.le_of_eq g10.symm))) nin0))
  have f15 : Sta Z T11.heap "java/util/ArrayList" "DEFAULTCAPACITY_EMPTY_ELEMENTDATA" "[Ljava/lang/Object;" (.ref de) := (Sta_keep f12 Kp11 (nsS A10.nostat ns0))
  have f16 : Exa Z T11.heap b3 "com/example/sortition/sortition/Element" := ((Fq5_0.ext E10).keep Kp11)
  obtain ⟨cq13, kq13, q13a, q13b, q13c⟩ := isOf hZ5 rfl Fq11_0
  obtain ⟨_, _, ⟨T13, L13, k13, n13⟩, -, X13, ⟨Lc13, hQ13, l13, y13, z13⟩, st13⟩ := X11.virtualBack hx (y := (⟨"java/util/ArrayList", "add", "(Ljava/lang/Object;)Z"⟩ : MethodName)) (z := (⟨"java/util/ArrayList", "add", "(Ljava/lang/Object;)Z"⟩ : MethodName)) hown5 (mvT hZ5 (ow hw 73 rfl)) (mvT hZ5 (ow hw 74 rfl)) (notFace_of_selects (args := #[]) (mvT hZ5 (ow hw 76 rfl))) (mvT hZ5 (ow hw 76 rfl)) (mvT hZ5 (ow hw 75 rfl)) (by decide) (backOf (W := 0) (rmA0 l Z a0 hw [] b10 b3 de kd (0 : Int32) T11.heap n0 (Nat.le_trans (Nat.le_trans (Nat.le_trans (Nat.le_trans (Nat.le_trans (Nat.le_trans (Nat.le_trans Z0 E1.1) Kp2.1) E3.1) E4.1) Kp5.1) E10.1) Kp11.1) Fq11_1 Fq11_0 Fq11_2 Fq11_3 f14 f15 f16 (Nat.le_trans (Nat.le_trans (Nat.le_trans (Nat.le_trans (Nat.le_trans (Nat.le_trans Z0 E1.1) Kp2.1) E3.1) E4.1) Kp5.1) (Nat.le_of_eq g10.symm)) (Nat.ne_of_lt (Nat.lt_of_lt_of_le (((((V_de.ext E1).keep Kp2 (ninS (Nat.ne_of_lt (Nat.lt_of_lt_of_le V_de.lt (Nat.le_of_eq g1.symm))) nin0)).ext E3).ext E4).keep Kp5 (ninS (Nat.ne_of_lt (Nat.lt_of_lt_of_le ((V_de.ext E1).keep Kp2 (ninS (Nat.ne_of_lt (Nat.lt_of_lt_of_le V_de.lt (Nat.le_of_eq g1.symm))) nin0)).lt (Nat.le_of_eq g3.symm))) nin0)).lt (Nat.le_of_eq g10.symm)))) hZ5 (ow hw 77 rfl) (ow hw 51 rfl) (by decide) (by decide)) q13a q13c (g := (mkF m 65 #[.val (.int ja), .val (.int jb), .val (.int kk), .val (.int (6 : Int32)), .val (.ref b1), .val (.ref b3), .val (.ref b10), .unset] [(.ref b3), (.ref b10)])) rfl (by rw [hml]; rfl) (Steps.refl _) (argsL := [(.ref b3)]) (rest := []) (lenOf pd_11 rfl) rfl (by show 2 * 0 + _ ≤ _; exact Nat.le_of_eq rfl) (hb hby at_65) (fun _ _ => ⟨rfl, rfl, (by decide : 7 + 1 ≤ _), (by decide : 27 + 10 ≤ _)⟩)
  dsimp only [Pt.U, Pt.locs, Pt.cells, Pt.slots] at X13 l13 y13 z13 st13 hQ13
  subst l13 y13 z13
  obtain ⟨nb_13, ka_13, rfl, Nq13, gb13_0, Kp13, Fq13_0, Fq13_1, Fq13_2, Fq13_3, Fq13_4, Pq13_0⟩ := hQ13
  have N13 := Fr.app N11 Nq13
  have f18 : Exa Z T13.heap b3 "com/example/sortition/sortition/Element" := (f16.keep Kp13)
  obtain ⟨cq17, kq17, q17a, q17b, q17c⟩ := isOf hZ5 rfl Fq13_0
  obtain ⟨_, _, ⟨T17, L17, k17, n17⟩, -, X17, ⟨Lc17, hQ17, l17, y17, z17⟩, st17⟩ := X13.virtualBack hx (y := (⟨"java/util/ArrayList", "add", "(Ljava/lang/Object;)Z"⟩ : MethodName)) (z := (⟨"java/util/ArrayList", "add", "(Ljava/lang/Object;)Z"⟩ : MethodName)) hown5 (mvT hZ5 (ow hw 73 rfl)) (mvT hZ5 (ow hw 74 rfl)) (notFace_of_selects (args := #[]) (mvT hZ5 (ow hw 76 rfl))) (mvT hZ5 (ow hw 76 rfl)) (mvT hZ5 (ow hw 75 rfl)) (by decide) (backOf (W := 0) (rmA1 l Z a0 hw [] b10 b3 nb_13 ka_13 ((0 : Int32) + (1 : Int32)) T13.heap n0 (Nat.le_trans (Nat.le_trans (Nat.le_trans (Nat.le_trans (Nat.le_trans (Nat.le_trans (Nat.le_trans (Nat.le_trans Z0 E1.1) Kp2.1) E3.1) E4.1) Kp5.1) E10.1) Kp11.1) Kp13.1) Fq13_1 Fq13_0 Fq13_2 Fq13_3 Fq13_4 Pq13_0 f18 (Nat.le_trans (Nat.le_trans (Nat.le_trans (Nat.le_trans (Nat.le_trans (Nat.le_trans Z0 E1.1) Kp2.1) E3.1) E4.1) Kp5.1) (Nat.le_of_eq g10.symm)) (Ne.symm (Nat.ne_of_lt (Nat.lt_of_lt_of_le Fq11_0.lt gb13_0))) (Nat.le_trans (Nat.le_trans (Nat.le_trans (Nat.le_trans (Nat.le_trans (Nat.le_trans (Nat.le_trans (Nat.le_trans Z0 E1.1) Kp2.1) E3.1) E4.1) Kp5.1) E10.1) Kp11.1) gb13_0)) hZ5 (ow hw 77 rfl) (ow hw 51 rfl) (by decide) (by decide)) q17a q17c (g := (mkF m 78 #[.val (.int ja), .val (.int jb), .val (.int kk), .val (.int (6 : Int32)), .val (.ref b1), .val (.ref b3), .val (.ref b10), .unset] [(.ref b3), (.ref b10)])) rfl (by rw [hml]; rfl) (Steps.refl _) (argsL := [(.ref b3)]) (rest := []) (lenOf pd_11 rfl) rfl (by show 2 * 0 + _ ≤ _; exact Nat.le_of_eq rfl) (hb hby at_78) (fun _ _ => ⟨rfl, rfl, (by decide : 8 + 0 ≤ _), (by decide : 37 + 0 ≤ _)⟩)
  dsimp only [Pt.U, Pt.locs, Pt.cells, Pt.slots] at X17 l17 y17 z17 st17 hQ17
  subst l17 y17 z17
  obtain ⟨rfl, Nq17, Kp17, Fq17_0, Fq17_1, Fq17_2, Fq17_3, Fq17_4⟩ := hQ17
  have N17 := Fr.app N13 Nq17
  have f20 : Exa Z T17.heap b3 "com/example/sortition/sortition/Element" := (f18.keep Kp17)
  obtain ⟨cq19, kq19, q19a, q19b, q19c⟩ := isOf hZ5 rfl Fq17_0
  obtain ⟨_, _, ⟨T19, L19, k19, n19⟩, -, X19, ⟨Lc19, hQ19, l19, y19, z19⟩, st19⟩ := X17.virtualBack hx (y := (⟨"java/util/ArrayList", "add", "(Ljava/lang/Object;)Z"⟩ : MethodName)) (z := (⟨"java/util/ArrayList", "add", "(Ljava/lang/Object;)Z"⟩ : MethodName)) hown5 (mvT hZ5 (ow hw 73 rfl)) (mvT hZ5 (ow hw 74 rfl)) (notFace_of_selects (args := #[]) (mvT hZ5 (ow hw 76 rfl))) (mvT hZ5 (ow hw 76 rfl)) (mvT hZ5 (ow hw 75 rfl)) (by decide) (backOf (W := 0) (rmA2 l Z a0 hw [] b10 b3 nb_13 ka_13 (((0 : Int32) + (1 : Int32)) + (1 : Int32)) T17.heap n0 (Nat.le_trans (Nat.le_trans (Nat.le_trans (Nat.le_trans (Nat.le_trans (Nat.le_trans (Nat.le_trans (Nat.le_trans (Nat.le_trans Z0 E1.1) Kp2.1) E3.1) E4.1) Kp5.1) E10.1) Kp11.1) Kp13.1) Kp17.1) Fq17_1 Fq17_0 Fq17_2 Fq17_3 Fq17_4 Pq13_0 f20 (Nat.le_trans (Nat.le_trans (Nat.le_trans (Nat.le_trans (Nat.le_trans (Nat.le_trans Z0 E1.1) Kp2.1) E3.1) E4.1) Kp5.1) (Nat.le_of_eq g10.symm)) (Ne.symm (Nat.ne_of_lt (Nat.lt_of_lt_of_le Fq11_0.lt gb13_0))) (Nat.le_trans (Nat.le_trans (Nat.le_trans (Nat.le_trans (Nat.le_trans (Nat.le_trans (Nat.le_trans (Nat.le_trans Z0 E1.1) Kp2.1) E3.1) E4.1) Kp5.1) E10.1) Kp11.1) gb13_0)) hZ5 (ow hw 77 rfl) (ow hw 51 rfl) (by decide) (by decide)) q19a q19c (g := (mkF m 91 #[.val (.int ja), .val (.int jb), .val (.int kk), .val (.int (6 : Int32)), .val (.ref b1), .val (.ref b3), .val (.ref b10), .unset] [(.ref b3), (.ref b10)])) rfl (by rw [hml]; rfl) (Steps.refl _) (argsL := [(.ref b3)]) (rest := []) (lenOf pd_11 rfl) rfl (by show 2 * 0 + _ ≤ _; exact Nat.le_of_eq rfl) (hb hby at_91) (fun _ _ => ⟨rfl, rfl, (by decide : 8 + 0 ≤ _), (by decide : 37 + 0 ≤ _)⟩)
  dsimp only [Pt.U, Pt.locs, Pt.cells, Pt.slots] at X19 l19 y19 z19 st19 hQ19
  subst l19 y19 z19
  obtain ⟨rfl, Nq19, Kp19, Fq19_0, Fq19_1, Fq19_2, Fq19_3, Fq19_4⟩ := hQ19
  have N19 := Fr.app N17 Nq19
  have f22 : Exa Z T19.heap b3 "com/example/sortition/sortition/Element" := (f20.keep Kp19)
  obtain ⟨cq21, kq21, q21a, q21b, q21c⟩ := isOf hZ5 rfl Fq19_0
  obtain ⟨_, _, ⟨T21, L21, k21, n21⟩, -, X21, ⟨Lc21, hQ21, l21, y21, z21⟩, st21⟩ := X19.virtualBack hx (y := (⟨"java/util/ArrayList", "add", "(Ljava/lang/Object;)Z"⟩ : MethodName)) (z := (⟨"java/util/ArrayList", "add", "(Ljava/lang/Object;)Z"⟩ : MethodName)) hown5 (mvT hZ5 (ow hw 73 rfl)) (mvT hZ5 (ow hw 74 rfl)) (notFace_of_selects (args := #[]) (mvT hZ5 (ow hw 76 rfl))) (mvT hZ5 (ow hw 76 rfl)) (mvT hZ5 (ow hw 75 rfl)) (by decide) (backOf (W := 0) (rmA3 l Z a0 hw [] b10 b3 nb_13 ka_13 ((((0 : Int32) + (1 : Int32)) + (1 : Int32)) + (1 : Int32)) T19.heap n0 (Nat.le_trans (Nat.le_trans (Nat.le_trans (Nat.le_trans (Nat.le_trans (Nat.le_trans (Nat.le_trans (Nat.le_trans (Nat.le_trans (Nat.le_trans Z0 E1.1) Kp2.1) E3.1) E4.1) Kp5.1) E10.1) Kp11.1) Kp13.1) Kp17.1) Kp19.1) Fq19_1 Fq19_0 Fq19_2 Fq19_3 Fq19_4 Pq13_0 f22 (Nat.le_trans (Nat.le_trans (Nat.le_trans (Nat.le_trans (Nat.le_trans (Nat.le_trans Z0 E1.1) Kp2.1) E3.1) E4.1) Kp5.1) (Nat.le_of_eq g10.symm)) (Ne.symm (Nat.ne_of_lt (Nat.lt_of_lt_of_le Fq11_0.lt gb13_0))) (Nat.le_trans (Nat.le_trans (Nat.le_trans (Nat.le_trans (Nat.le_trans (Nat.le_trans (Nat.le_trans (Nat.le_trans Z0 E1.1) Kp2.1) E3.1) E4.1) Kp5.1) E10.1) Kp11.1) gb13_0)) hZ5 (ow hw 77 rfl) (ow hw 51 rfl) (by decide) (by decide)) q21a q21c (g := (mkF m 104 #[.val (.int ja), .val (.int jb), .val (.int kk), .val (.int (6 : Int32)), .val (.ref b1), .val (.ref b3), .val (.ref b10), .unset] [(.ref b3), (.ref b10)])) rfl (by rw [hml]; rfl) (Steps.refl _) (argsL := [(.ref b3)]) (rest := []) (lenOf pd_11 rfl) rfl (by show 2 * 0 + _ ≤ _; exact Nat.le_of_eq rfl) (hb hby at_104) (fun _ _ => ⟨rfl, rfl, (by decide : 8 + 0 ≤ _), (by decide : 37 + 0 ≤ _)⟩)
  dsimp only [Pt.U, Pt.locs, Pt.cells, Pt.slots] at X21 l21 y21 z21 st21 hQ21
  subst l21 y21 z21
  obtain ⟨rfl, Nq21, Kp21, Fq21_0, Fq21_1, Fq21_2, Fq21_3, Fq21_4⟩ := hQ21
  have N21 := Fr.app N19 Nq21
  have f24 : Exa Z T21.heap b3 "com/example/sortition/sortition/Element" := (f22.keep Kp21)
  obtain ⟨cq23, kq23, q23a, q23b, q23c⟩ := isOf hZ5 rfl Fq21_0
  obtain ⟨_, _, ⟨T23, L23, k23, n23⟩, -, X23, ⟨Lc23, hQ23, l23, y23, z23⟩, st23⟩ := X21.virtualBack hx (y := (⟨"java/util/ArrayList", "add", "(Ljava/lang/Object;)Z"⟩ : MethodName)) (z := (⟨"java/util/ArrayList", "add", "(Ljava/lang/Object;)Z"⟩ : MethodName)) hown5 (mvT hZ5 (ow hw 73 rfl)) (mvT hZ5 (ow hw 74 rfl)) (notFace_of_selects (args := #[]) (mvT hZ5 (ow hw 76 rfl))) (mvT hZ5 (ow hw 76 rfl)) (mvT hZ5 (ow hw 75 rfl)) (by decide) (backOf (W := 0) (rmA4 l Z a0 hw [] b10 b3 nb_13 ka_13 (((((0 : Int32) + (1 : Int32)) + (1 : Int32)) + (1 : Int32)) + (1 : Int32)) T21.heap n0 (Nat.le_trans (Nat.le_trans (Nat.le_trans (Nat.le_trans (Nat.le_trans (Nat.le_trans (Nat.le_trans (Nat.le_trans (Nat.le_trans (Nat.le_trans (Nat.le_trans Z0 E1.1) Kp2.1) E3.1) E4.1) Kp5.1) E10.1) Kp11.1) Kp13.1) Kp17.1) Kp19.1) Kp21.1) Fq21_1 Fq21_0 Fq21_2 Fq21_3 Fq21_4 Pq13_0 f24 (Nat.le_trans (Nat.le_trans (Nat.le_trans (Nat.le_trans (Nat.le_trans (Nat.le_trans Z0 E1.1) Kp2.1) E3.1) E4.1) Kp5.1) (Nat.le_of_eq g10.symm)) (Ne.symm (Nat.ne_of_lt (Nat.lt_of_lt_of_le Fq11_0.lt gb13_0))) (Nat.le_trans (Nat.le_trans (Nat.le_trans (Nat.le_trans (Nat.le_trans (Nat.le_trans (Nat.le_trans (Nat.le_trans Z0 E1.1) Kp2.1) E3.1) E4.1) Kp5.1) E10.1) Kp11.1) gb13_0)) hZ5 (ow hw 77 rfl) (ow hw 51 rfl) (by decide) (by decide)) q23a q23c (g := (mkF m 117 #[.val (.int ja), .val (.int jb), .val (.int kk), .val (.int (6 : Int32)), .val (.ref b1), .val (.ref b3), .val (.ref b10), .unset] [(.ref b3), (.ref b10)])) rfl (by rw [hml]; rfl) (Steps.refl _) (argsL := [(.ref b3)]) (rest := []) (lenOf pd_11 rfl) rfl (by show 2 * 0 + _ ≤ _; exact Nat.le_of_eq rfl) (hb hby at_117) (fun _ _ => ⟨rfl, rfl, (by decide : 8 + 0 ≤ _), (by decide : 37 + 0 ≤ _)⟩)
  dsimp only [Pt.U, Pt.locs, Pt.cells, Pt.slots] at X23 l23 y23 z23 st23 hQ23
  subst l23 y23 z23
  obtain ⟨rfl, Nq23, Kp23, Fq23_0, Fq23_1, Fq23_2, Fq23_3, Fq23_4⟩ := hQ23
  have N23 := Fr.app N21 Nq23
  have f26 : Exa Z T23.heap b3 "com/example/sortition/sortition/Element" := (f24.keep Kp23)
  obtain ⟨cq25, kq25, q25a, q25b, q25c⟩ := isOf hZ5 rfl Fq23_0
  obtain ⟨_, _, ⟨T25, L25, k25, n25⟩, -, X25, ⟨Lc25, hQ25, l25, y25, z25⟩, st25⟩ := X23.virtualBack hx (y := (⟨"java/util/ArrayList", "add", "(Ljava/lang/Object;)Z"⟩ : MethodName)) (z := (⟨"java/util/ArrayList", "add", "(Ljava/lang/Object;)Z"⟩ : MethodName)) hown5 (mvT hZ5 (ow hw 73 rfl)) (mvT hZ5 (ow hw 74 rfl)) (notFace_of_selects (args := #[]) (mvT hZ5 (ow hw 76 rfl))) (mvT hZ5 (ow hw 76 rfl)) (mvT hZ5 (ow hw 75 rfl)) (by decide) (backOf (W := 0) (rmA5 l Z a0 hw [] b10 b3 nb_13 ka_13 ((((((0 : Int32) + (1 : Int32)) + (1 : Int32)) + (1 : Int32)) + (1 : Int32)) + (1 : Int32)) T23.heap n0 (Nat.le_trans (Nat.le_trans (Nat.le_trans (Nat.le_trans (Nat.le_trans (Nat.le_trans (Nat.le_trans (Nat.le_trans (Nat.le_trans (Nat.le_trans (Nat.le_trans (Nat.le_trans Z0 E1.1) Kp2.1) E3.1) E4.1) Kp5.1) E10.1) Kp11.1) Kp13.1) Kp17.1) Kp19.1) Kp21.1) Kp23.1) Fq23_1 Fq23_0 Fq23_2 Fq23_3 Fq23_4 Pq13_0 f26 (Nat.le_trans (Nat.le_trans (Nat.le_trans (Nat.le_trans (Nat.le_trans (Nat.le_trans Z0 E1.1) Kp2.1) E3.1) E4.1) Kp5.1) (Nat.le_of_eq g10.symm)) (Ne.symm (Nat.ne_of_lt (Nat.lt_of_lt_of_le Fq11_0.lt gb13_0))) (Nat.le_trans (Nat.le_trans (Nat.le_trans (Nat.le_trans (Nat.le_trans (Nat.le_trans (Nat.le_trans (Nat.le_trans Z0 E1.1) Kp2.1) E3.1) E4.1) Kp5.1) E10.1) Kp11.1) gb13_0)) hZ5 (ow hw 77 rfl) (ow hw 51 rfl) (by decide) (by decide)) q25a q25c (g := (mkF m 130 #[.val (.int ja), .val (.int jb), .val (.int kk), .val (.int (6 : Int32)), .val (.ref b1), .val (.ref b3), .val (.ref b10), .unset] [(.ref b3), (.ref b10)])) rfl (by rw [hml]; rfl) (Steps.refl _) (argsL := [(.ref b3)]) (rest := []) (lenOf pd_11 rfl) rfl (by show 2 * 0 + _ ≤ _; exact Nat.le_of_eq rfl) (hb hby at_130) (fun _ _ => ⟨rfl, rfl, (by decide : 8 + 0 ≤ _), (by decide : 37 + 0 ≤ _)⟩)
  dsimp only [Pt.U, Pt.locs, Pt.cells, Pt.slots] at X25 l25 y25 z25 st25 hQ25
  subst l25 y25 z25
  obtain ⟨rfl, Nq25, Kp25, Fq25_0, Fq25_1, Fq25_2, Fq25_3, Fq25_4⟩ := hQ25
  have N25 := Fr.app N23 Nq25
  have f28 : Fld Z T25.heap b1 "com/example/sortition/sortition/Slots" "size" "I" (.int kk) := (((((((((((Fq2_1.ext E3).ext E4).keep Kp5 (ninS (Nat.ne_of_lt (Nat.lt_of_lt_of_le Fq2_0.lt (Nat.le_of_eq g3.symm))) nin0)).ext E10).keep Kp11 (ninS (Nat.ne_of_lt (Nat.lt_of_lt_of_le (((Fq2_0.ext E3).ext E4).keep Kp5).lt (Nat.le_of_eq g10.symm))) nin0)).keep Kp13 (ninS (Nat.ne_of_lt (Nat.lt_of_lt_of_le (((Fq2_0.ext E3).ext E4).keep Kp5).lt (Nat.le_of_eq g10.symm))) nin0)).keep Kp17 (ninS (Nat.ne_of_lt (Nat.lt_of_lt_of_le (((Fq2_0.ext E3).ext E4).keep Kp5).lt (Nat.le_of_eq g10.symm))) (ninS (Nat.ne_of_lt (Nat.lt_of_lt_of_le (((((Fq2_0.ext E3).ext E4).keep Kp5).ext E10).keep Kp11).lt gb13_0)) nin0))).keep Kp19 (ninS (Nat.ne_of_lt (Nat.lt_of_lt_of_le (((Fq2_0.ext E3).ext E4).keep Kp5).lt (Nat.le_of_eq g10.symm))) (ninS (Nat.ne_of_lt (Nat.lt_of_lt_of_le (((((Fq2_0.ext E3).ext E4).keep Kp5).ext E10).keep Kp11).lt gb13_0)) nin0))).keep Kp21 (ninS (Nat.ne_of_lt (Nat.lt_of_lt_of_le (((Fq2_0.ext E3).ext E4).keep Kp5).lt (Nat.le_of_eq g10.symm))) (ninS (Nat.ne_of_lt (Nat.lt_of_lt_of_le (((((Fq2_0.ext E3).ext E4).keep Kp5).ext E10).keep Kp11).lt gb13_0)) nin0))).keep Kp23 (ninS (Nat.ne_of_lt (Nat.lt_of_lt_of_le (((Fq2_0.ext E3).ext E4).keep Kp5).lt (Nat.le_of_eq g10.symm))) (ninS (Nat.ne_of_lt (Nat.lt_of_lt_of_le (((((Fq2_0.ext E3).ext E4).keep Kp5).ext E10).keep Kp11).lt gb13_0)) nin0))).keep Kp25 (ninS (Nat.ne_of_lt (Nat.lt_of_lt_of_le (((Fq2_0.ext E3).ext E4).keep Kp5).lt (Nat.le_of_eq g10.symm))) (ninS (Nat.ne_of_lt (Nat.lt_of_lt_of_le (((((Fq2_0.ext E3).ext E4).keep Kp5).ext E10).keep Kp11).lt gb13_0)) nin0)))
  have f29 : Exa Z T25.heap b1 "com/example/sortition/sortition/Slots" := (((((((((((Fq2_0.ext E3).ext E4).keep Kp5).ext E10).keep Kp11).keep Kp13).keep Kp17).keep Kp19).keep Kp21).keep Kp23).keep Kp25)
  obtain ⟨cq27, kq27, q27a, q27b, q27c⟩ := isOf hZ5 rfl f29
  obtain ⟨_, _, ⟨T27, L27, k27, n27⟩, -, X27, ⟨Lc27, hQ27, l27, y27, z27⟩, st27⟩ := X25.virtualBack hx (y := (⟨"com/example/sortition/sortition/Slots", "allows", "(Ljava/util/List;)Z"⟩ : MethodName)) (z := (⟨"com/example/sortition/sortition/Slots", "allows", "(Ljava/util/List;)Z"⟩ : MethodName)) hown5 (mvT hZ5 (ow hw 104 rfl)) (mvT hZ5 (ow hw 105 rfl)) (notFace_of_selects (args := #[]) (mvT hZ5 (ow hw 107 rfl))) (mvT hZ5 (ow hw 107 rfl)) (mvT hZ5 (ow hw 106 rfl)) (by decide) (backOf (W := 0) (rmAW_t l Z a0 hw [] b1 b10 (6 : Int32) kk T25.heap n0 (Nat.le_trans (Nat.le_trans (Nat.le_trans (Nat.le_trans (Nat.le_trans (Nat.le_trans (Nat.le_trans (Nat.le_trans (Nat.le_trans (Nat.le_trans (Nat.le_trans (Nat.le_trans (Nat.le_trans Z0 E1.1) Kp2.1) E3.1) E4.1) Kp5.1) E10.1) Kp11.1) Kp13.1) Kp17.1) Kp19.1) Kp21.1) Kp23.1) Kp25.1) Fq25_0 Fq25_3 f28 hrd) hZ5 (ow hw 108 rfl) (ow hw 2 rfl) (by decide) (by decide)) q27a q27c (g := (mkF m 164 #[.val (.int ja), .val (.int jb), .val (.int kk), .val (.int (6 : Int32)), .val (.ref b1), .val (.ref b3), .val (.ref b10), .val (.int (0 : Int32))] [(.ref b10), (.ref b1)])) rfl (by rw [hml]; rfl) (Steps.refl _) (argsL := [(.ref b10)]) (rest := []) (lenOf pd_10 rfl) rfl (by show 2 * 0 + _ ≤ _; exact Nat.le_of_eq rfl) (hb hby at_164) (fun _ _ => ⟨rfl, rfl, (by decide : 8 + 0 ≤ _), (by decide : 37 + 0 ≤ _)⟩)
  dsimp only [Pt.U, Pt.locs, Pt.cells, Pt.slots] at X27 l27 y27 z27 st27 hQ27
  subst l27 y27 z27
  obtain ⟨rfl, Nq27, e27⟩ := hQ27
  have N27 := Fr.app N25 Nq27
  obtain ⟨fs, hr, hrun, hended, hRW⟩ := X27.leaveW (s := s) hS5 (by rw [e27]; exact (Nat.le_trans (Nat.le_trans (Nat.le_trans (Nat.le_trans (Nat.le_trans (Nat.le_trans (Nat.le_trans (Nat.le_trans (Nat.le_refl _) E10.1) Kp11.1) Kp13.1) Kp17.1) Kp19.1) Kp21.1) Kp23.1) Kp25.1)) (v := some (.int (1 : Int32))) (fun h => by rw [Bd.returns] at h; cases h)
  refine ⟨_, _, pre0 _ ?_, hrun, hended, _, _, rfl, ?_, hRW.1, hRW.2.1, hRW.2.2.1, hRW.2.2.2.mono (by decide) (by decide)⟩
  · show Steps p.tables e below (s₁.setTop (mkF m 0 #[.val (.int ja), .val (.int jb), .unset, .unset, .unset, .unset, .unset, .unset] [])) _
    refine stp _ ?_
    show Steps p.tables e below (s₁.setTop (mkF m 20 #[.val (.int ja), .val (.int jb), .val (.int kk), .unset, .unset, .unset, .unset, .unset] [])) _
    refine XS.iloadN X0.here hx rfl (hb hby at_20) rfl ?_
    show Steps p.tables e below (s₁.setTop (mkF m 21 #[.val (.int ja), .val (.int jb), .val (.int kk), .unset, .unset, .unset, .unset, .unset] [(.int jb)])) _
    refine XS.bipush X0.here hx rfl (hb hby at_21) ?_
    show Steps p.tables e below (s₁.setTop (mkF m 23 #[.val (.int ja), .val (.int jb), .val (.int kk), .unset, .unset, .unset, .unset, .unset] [(.int (7 : Int32)), (.int jb)])) _
    refine XS.iand X0.here hx rfl (hb hby at_23) rfl ?_
    show Steps p.tables e below (s₁.setTop (mkF m 24 #[.val (.int ja), .val (.int jb), .val (.int kk), .unset, .unset, .unset, .unset, .unset] [(.int (jb &&& (7 : Int32)))])) _
    rw [hn]
    show Steps p.tables e below (s₁.setTop (mkF m 24 #[.val (.int ja), .val (.int jb), .val (.int kk), .unset, .unset, .unset, .unset, .unset] [(.int (6 : Int32))])) _
    refine XS.istoreN X0.here hx rfl (hb hby at_24) rfl (l' := #[.val (.int ja), .val (.int jb), .val (.int kk), .val (.int (6 : Int32)), .unset, .unset, .unset, .unset]) rfl ?_
    show Steps p.tables e below (s₁.setTop (mkF m 25 #[.val (.int ja), .val (.int jb), .val (.int kk), .val (.int (6 : Int32)), .unset, .unset, .unset, .unset] [])) _
    refine st1 _ ?_
    show Steps p.tables e below (T1.setTop (mkF m 28 #[.val (.int ja), .val (.int jb), .val (.int kk), .val (.int (6 : Int32)), .unset, .unset, .unset, .unset] [(.ref b1)])) _
    refine XS.dup X1.here hx rfl (hb hby at_28) rfl rfl ?_
    show Steps p.tables e below (T1.setTop (mkF m 29 #[.val (.int ja), .val (.int jb), .val (.int kk), .val (.int (6 : Int32)), .unset, .unset, .unset, .unset] [(.ref b1), (.ref b1)])) _
    refine XS.iloadN X1.here hx rfl (hb hby at_29) rfl ?_
    show Steps p.tables e below (T1.setTop (mkF m 30 #[.val (.int ja), .val (.int jb), .val (.int kk), .val (.int (6 : Int32)), .unset, .unset, .unset, .unset] [(.int kk), (.ref b1), (.ref b1)])) _
    refine st2.trans ?_
    show Steps p.tables e below (T2.setTop (mkF m 33 #[.val (.int ja), .val (.int jb), .val (.int kk), .val (.int (6 : Int32)), .unset, .unset, .unset, .unset] [(.ref b1)])) _
    refine XS.astore X2.here hx rfl (hb hby at_33) rfl rfl (l' := #[.val (.int ja), .val (.int jb), .val (.int kk), .val (.int (6 : Int32)), .val (.ref b1), .unset, .unset, .unset]) rfl ?_
    show Steps p.tables e below (T2.setTop (mkF m 35 #[.val (.int ja), .val (.int jb), .val (.int kk), .val (.int (6 : Int32)), .val (.ref b1), .unset, .unset, .unset] [])) _
    refine st3 _ ?_
    show Steps p.tables e below (T3.setTop (mkF m 38 #[.val (.int ja), .val (.int jb), .val (.int kk), .val (.int (6 : Int32)), .val (.ref b1), .unset, .unset, .unset] [(.ref b3)])) _
    refine XS.dup X3.here hx rfl (hb hby at_38) rfl rfl ?_
    show Steps p.tables e below (T3.setTop (mkF m 39 #[.val (.int ja), .val (.int jb), .val (.int kk), .val (.int (6 : Int32)), .val (.ref b1), .unset, .unset, .unset] [(.ref b3), (.ref b3)])) _
    refine XS.iconst X3.here hx rfl (hb hby at_39) ?_
    show Steps p.tables e below (T3.setTop (mkF m 40 #[.val (.int ja), .val (.int jb), .val (.int kk), .val (.int (6 : Int32)), .val (.ref b1), .unset, .unset, .unset] [(.int (0 : Int32)), (.ref b3), (.ref b3)])) _
    refine st4 _ ?_
    show Steps p.tables e below (T4.setTop (mkF m 42 #[.val (.int ja), .val (.int jb), .val (.int kk), .val (.int (6 : Int32)), .val (.ref b1), .unset, .unset, .unset] [(.ref a4), (.int (0 : Int32)), (.ref b3), (.ref b3)])) _
    refine XS.dconst1 X4.here hx rfl (hb hby at_42) (v := 4607182418800017408) rfl ?_
    show Steps p.tables e below (T4.setTop (mkF m 43 #[.val (.int ja), .val (.int jb), .val (.int kk), .val (.int (6 : Int32)), .val (.ref b1), .unset, .unset, .unset] [(.double 4607182418800017408), (.ref a4), (.int (0 : Int32)), (.ref b3), (.ref b3)])) _
    refine st5.trans ?_
    show Steps p.tables e below (T5.setTop (mkF m 46 #[.val (.int ja), .val (.int jb), .val (.int kk), .val (.int (6 : Int32)), .val (.ref b1), .unset, .unset, .unset] [(.ref b3)])) _
    refine XS.astore X5.here hx rfl (hb hby at_46) rfl rfl (l' := #[.val (.int ja), .val (.int jb), .val (.int kk), .val (.int (6 : Int32)), .val (.ref b1), .val (.ref b3), .unset, .unset]) rfl ?_
    show Steps p.tables e below (T5.setTop (mkF m 48 #[.val (.int ja), .val (.int jb), .val (.int kk), .val (.int (6 : Int32)), .val (.ref b1), .val (.ref b3), .unset, .unset] [])) _
    refine st10 _ ?_
    show Steps p.tables e below (T10.setTop (mkF m 51 #[.val (.int ja), .val (.int jb), .val (.int kk), .val (.int (6 : Int32)), .val (.ref b1), .val (.ref b3), .unset, .unset] [(.ref b10)])) _
    refine XS.dup X10.here hx rfl (hb hby at_51) rfl rfl ?_
    show Steps p.tables e below (T10.setTop (mkF m 52 #[.val (.int ja), .val (.int jb), .val (.int kk), .val (.int (6 : Int32)), .val (.ref b1), .val (.ref b3), .unset, .unset] [(.ref b10), (.ref b10)])) _
    refine st11.trans ?_
    show Steps p.tables e below (T11.setTop (mkF m 55 #[.val (.int ja), .val (.int jb), .val (.int kk), .val (.int (6 : Int32)), .val (.ref b1), .val (.ref b3), .unset, .unset] [(.ref b10)])) _
    refine XS.astore X11.here hx rfl (hb hby at_55) rfl rfl (l' := #[.val (.int ja), .val (.int jb), .val (.int kk), .val (.int (6 : Int32)), .val (.ref b1), .val (.ref b3), .val (.ref b10), .unset]) rfl ?_
    show Steps p.tables e below (T11.setTop (mkF m 57 #[.val (.int ja), .val (.int jb), .val (.int kk), .val (.int (6 : Int32)), .val (.ref b1), .val (.ref b3), .val (.ref b10), .unset] [])) _
    refine XS.iloadN X11.here hx rfl (hb hby at_57) rfl ?_
    show Steps p.tables e below (T11.setTop (mkF m 58 #[.val (.int ja), .val (.int jb), .val (.int kk), .val (.int (6 : Int32)), .val (.ref b1), .val (.ref b3), .val (.ref b10), .unset] [(.int (6 : Int32))])) _
    refine XS.ifNo X11.here hx rfl (hb hby at_58) rfl ((if0 _ _).trans (tlt (by decide : (0 : Int32) < (6 : Int32))).2.2.2) ?_
    show Steps p.tables e below (T11.setTop (mkF m 61 #[.val (.int ja), .val (.int jb), .val (.int kk), .val (.int (6 : Int32)), .val (.ref b1), .val (.ref b3), .val (.ref b10), .unset] [])) _
    refine XS.aload X11.here hx rfl (hb hby at_61) rfl rfl ?_
    show Steps p.tables e below (T11.setTop (mkF m 63 #[.val (.int ja), .val (.int jb), .val (.int kk), .val (.int (6 : Int32)), .val (.ref b1), .val (.ref b3), .val (.ref b10), .unset] [(.ref b10)])) _
    refine XS.aload X11.here hx rfl (hb hby at_63) rfl rfl ?_
    show Steps p.tables e below (T11.setTop (mkF m 65 #[.val (.int ja), .val (.int jb), .val (.int kk), .val (.int (6 : Int32)), .val (.ref b1), .val (.ref b3), .val (.ref b10), .unset] [(.ref b3), (.ref b10)])) _
    refine st13.trans ?_
    show Steps p.tables e below (T13.setTop (mkF m 68 #[.val (.int ja), .val (.int jb), .val (.int kk), .val (.int (6 : Int32)), .val (.ref b1), .val (.ref b3), .val (.ref b10), .unset] [(.int (1 : Int32))])) _
    refine XS.pop X13.here hx rfl (hb hby at_68) rfl rfl ?_
    show Steps p.tables e below (T13.setTop (mkF m 69 #[.val (.int ja), .val (.int jb), .val (.int kk), .val (.int (6 : Int32)), .val (.ref b1), .val (.ref b3), .val (.ref b10), .unset] [])) _
    refine XS.iloadN X13.here hx rfl (hb hby at_69) rfl ?_
    show Steps p.tables e below (T13.setTop (mkF m 70 #[.val (.int ja), .val (.int jb), .val (.int kk), .val (.int (6 : Int32)), .val (.ref b1), .val (.ref b3), .val (.ref b10), .unset] [(.int (6 : Int32))])) _
    refine XS.iconst X13.here hx rfl (hb hby at_70) ?_
    show Steps p.tables e below (T13.setTop (mkF m 71 #[.val (.int ja), .val (.int jb), .val (.int kk), .val (.int (6 : Int32)), .val (.ref b1), .val (.ref b3), .val (.ref b10), .unset] [(.int (1 : Int32)), (.int (6 : Int32))])) _
    refine XS.icmpNo X13.here hx rfl (hb hby at_71) rfl (tlt (by decide : (1 : Int32) < (6 : Int32))).2.2.2 ?_
    show Steps p.tables e below (T13.setTop (mkF m 74 #[.val (.int ja), .val (.int jb), .val (.int kk), .val (.int (6 : Int32)), .val (.ref b1), .val (.ref b3), .val (.ref b10), .unset] [])) _
    refine XS.aload X13.here hx rfl (hb hby at_74) rfl rfl ?_
    show Steps p.tables e below (T13.setTop (mkF m 76 #[.val (.int ja), .val (.int jb), .val (.int kk), .val (.int (6 : Int32)), .val (.ref b1), .val (.ref b3), .val (.ref b10), .unset] [(.ref b10)])) _
    refine XS.aload X13.here hx rfl (hb hby at_76) rfl rfl ?_
    show Steps p.tables e below (T13.setTop (mkF m 78 #[.val (.int ja), .val (.int jb), .val (.int kk), .val (.int (6 : Int32)), .val (.ref b1), .val (.ref b3), .val (.ref b10), .unset] [(.ref b3), (.ref b10)])) _
    refine st17.trans ?_
    show Steps p.tables e below (T17.setTop (mkF m 81 #[.val (.int ja), .val (.int jb), .val (.int kk), .val (.int (6 : Int32)), .val (.ref b1), .val (.ref b3), .val (.ref b10), .unset] [(.int (1 : Int32))])) _
    refine XS.pop X17.here hx rfl (hb hby at_81) rfl rfl ?_
    show Steps p.tables e below (T17.setTop (mkF m 82 #[.val (.int ja), .val (.int jb), .val (.int kk), .val (.int (6 : Int32)), .val (.ref b1), .val (.ref b3), .val (.ref b10), .unset] [])) _
    refine XS.iloadN X17.here hx rfl (hb hby at_82) rfl ?_
    show Steps p.tables e below (T17.setTop (mkF m 83 #[.val (.int ja), .val (.int jb), .val (.int kk), .val (.int (6 : Int32)), .val (.ref b1), .val (.ref b3), .val (.ref b10), .unset] [(.int (6 : Int32))])) _
    refine XS.iconst X17.here hx rfl (hb hby at_83) ?_
    show Steps p.tables e below (T17.setTop (mkF m 84 #[.val (.int ja), .val (.int jb), .val (.int kk), .val (.int (6 : Int32)), .val (.ref b1), .val (.ref b3), .val (.ref b10), .unset] [(.int (2 : Int32)), (.int (6 : Int32))])) _
    refine XS.icmpNo X17.here hx rfl (hb hby at_84) rfl (tlt (by decide : (2 : Int32) < (6 : Int32))).2.2.2 ?_
    show Steps p.tables e below (T17.setTop (mkF m 87 #[.val (.int ja), .val (.int jb), .val (.int kk), .val (.int (6 : Int32)), .val (.ref b1), .val (.ref b3), .val (.ref b10), .unset] [])) _
    refine XS.aload X17.here hx rfl (hb hby at_87) rfl rfl ?_
    show Steps p.tables e below (T17.setTop (mkF m 89 #[.val (.int ja), .val (.int jb), .val (.int kk), .val (.int (6 : Int32)), .val (.ref b1), .val (.ref b3), .val (.ref b10), .unset] [(.ref b10)])) _
    refine XS.aload X17.here hx rfl (hb hby at_89) rfl rfl ?_
    show Steps p.tables e below (T17.setTop (mkF m 91 #[.val (.int ja), .val (.int jb), .val (.int kk), .val (.int (6 : Int32)), .val (.ref b1), .val (.ref b3), .val (.ref b10), .unset] [(.ref b3), (.ref b10)])) _
    refine st19.trans ?_
    show Steps p.tables e below (T19.setTop (mkF m 94 #[.val (.int ja), .val (.int jb), .val (.int kk), .val (.int (6 : Int32)), .val (.ref b1), .val (.ref b3), .val (.ref b10), .unset] [(.int (1 : Int32))])) _
    refine XS.pop X19.here hx rfl (hb hby at_94) rfl rfl ?_
    show Steps p.tables e below (T19.setTop (mkF m 95 #[.val (.int ja), .val (.int jb), .val (.int kk), .val (.int (6 : Int32)), .val (.ref b1), .val (.ref b3), .val (.ref b10), .unset] [])) _
    refine XS.iloadN X19.here hx rfl (hb hby at_95) rfl ?_
    show Steps p.tables e below (T19.setTop (mkF m 96 #[.val (.int ja), .val (.int jb), .val (.int kk), .val (.int (6 : Int32)), .val (.ref b1), .val (.ref b3), .val (.ref b10), .unset] [(.int (6 : Int32))])) _
    refine XS.iconst X19.here hx rfl (hb hby at_96) ?_
    show Steps p.tables e below (T19.setTop (mkF m 97 #[.val (.int ja), .val (.int jb), .val (.int kk), .val (.int (6 : Int32)), .val (.ref b1), .val (.ref b3), .val (.ref b10), .unset] [(.int (3 : Int32)), (.int (6 : Int32))])) _
    refine XS.icmpNo X19.here hx rfl (hb hby at_97) rfl (tlt (by decide : (3 : Int32) < (6 : Int32))).2.2.2 ?_
    show Steps p.tables e below (T19.setTop (mkF m 100 #[.val (.int ja), .val (.int jb), .val (.int kk), .val (.int (6 : Int32)), .val (.ref b1), .val (.ref b3), .val (.ref b10), .unset] [])) _
    refine XS.aload X19.here hx rfl (hb hby at_100) rfl rfl ?_
    show Steps p.tables e below (T19.setTop (mkF m 102 #[.val (.int ja), .val (.int jb), .val (.int kk), .val (.int (6 : Int32)), .val (.ref b1), .val (.ref b3), .val (.ref b10), .unset] [(.ref b10)])) _
    refine XS.aload X19.here hx rfl (hb hby at_102) rfl rfl ?_
    show Steps p.tables e below (T19.setTop (mkF m 104 #[.val (.int ja), .val (.int jb), .val (.int kk), .val (.int (6 : Int32)), .val (.ref b1), .val (.ref b3), .val (.ref b10), .unset] [(.ref b3), (.ref b10)])) _
    refine st21.trans ?_
    show Steps p.tables e below (T21.setTop (mkF m 107 #[.val (.int ja), .val (.int jb), .val (.int kk), .val (.int (6 : Int32)), .val (.ref b1), .val (.ref b3), .val (.ref b10), .unset] [(.int (1 : Int32))])) _
    refine XS.pop X21.here hx rfl (hb hby at_107) rfl rfl ?_
    show Steps p.tables e below (T21.setTop (mkF m 108 #[.val (.int ja), .val (.int jb), .val (.int kk), .val (.int (6 : Int32)), .val (.ref b1), .val (.ref b3), .val (.ref b10), .unset] [])) _
    refine XS.iloadN X21.here hx rfl (hb hby at_108) rfl ?_
    show Steps p.tables e below (T21.setTop (mkF m 109 #[.val (.int ja), .val (.int jb), .val (.int kk), .val (.int (6 : Int32)), .val (.ref b1), .val (.ref b3), .val (.ref b10), .unset] [(.int (6 : Int32))])) _
    refine XS.iconst X21.here hx rfl (hb hby at_109) ?_
    show Steps p.tables e below (T21.setTop (mkF m 110 #[.val (.int ja), .val (.int jb), .val (.int kk), .val (.int (6 : Int32)), .val (.ref b1), .val (.ref b3), .val (.ref b10), .unset] [(.int (4 : Int32)), (.int (6 : Int32))])) _
    refine XS.icmpNo X21.here hx rfl (hb hby at_110) rfl (tlt (by decide : (4 : Int32) < (6 : Int32))).2.2.2 ?_
    show Steps p.tables e below (T21.setTop (mkF m 113 #[.val (.int ja), .val (.int jb), .val (.int kk), .val (.int (6 : Int32)), .val (.ref b1), .val (.ref b3), .val (.ref b10), .unset] [])) _
    refine XS.aload X21.here hx rfl (hb hby at_113) rfl rfl ?_
    show Steps p.tables e below (T21.setTop (mkF m 115 #[.val (.int ja), .val (.int jb), .val (.int kk), .val (.int (6 : Int32)), .val (.ref b1), .val (.ref b3), .val (.ref b10), .unset] [(.ref b10)])) _
    refine XS.aload X21.here hx rfl (hb hby at_115) rfl rfl ?_
    show Steps p.tables e below (T21.setTop (mkF m 117 #[.val (.int ja), .val (.int jb), .val (.int kk), .val (.int (6 : Int32)), .val (.ref b1), .val (.ref b3), .val (.ref b10), .unset] [(.ref b3), (.ref b10)])) _
    refine st23.trans ?_
    show Steps p.tables e below (T23.setTop (mkF m 120 #[.val (.int ja), .val (.int jb), .val (.int kk), .val (.int (6 : Int32)), .val (.ref b1), .val (.ref b3), .val (.ref b10), .unset] [(.int (1 : Int32))])) _
    refine XS.pop X23.here hx rfl (hb hby at_120) rfl rfl ?_
    show Steps p.tables e below (T23.setTop (mkF m 121 #[.val (.int ja), .val (.int jb), .val (.int kk), .val (.int (6 : Int32)), .val (.ref b1), .val (.ref b3), .val (.ref b10), .unset] [])) _
    refine XS.iloadN X23.here hx rfl (hb hby at_121) rfl ?_
    show Steps p.tables e below (T23.setTop (mkF m 122 #[.val (.int ja), .val (.int jb), .val (.int kk), .val (.int (6 : Int32)), .val (.ref b1), .val (.ref b3), .val (.ref b10), .unset] [(.int (6 : Int32))])) _
    refine XS.iconst X23.here hx rfl (hb hby at_122) ?_
    show Steps p.tables e below (T23.setTop (mkF m 123 #[.val (.int ja), .val (.int jb), .val (.int kk), .val (.int (6 : Int32)), .val (.ref b1), .val (.ref b3), .val (.ref b10), .unset] [(.int (5 : Int32)), (.int (6 : Int32))])) _
    refine XS.icmpNo X23.here hx rfl (hb hby at_123) rfl (tlt (by decide : (5 : Int32) < (6 : Int32))).2.2.2 ?_
    show Steps p.tables e below (T23.setTop (mkF m 126 #[.val (.int ja), .val (.int jb), .val (.int kk), .val (.int (6 : Int32)), .val (.ref b1), .val (.ref b3), .val (.ref b10), .unset] [])) _
    refine XS.aload X23.here hx rfl (hb hby at_126) rfl rfl ?_
    show Steps p.tables e below (T23.setTop (mkF m 128 #[.val (.int ja), .val (.int jb), .val (.int kk), .val (.int (6 : Int32)), .val (.ref b1), .val (.ref b3), .val (.ref b10), .unset] [(.ref b10)])) _
    refine XS.aload X23.here hx rfl (hb hby at_128) rfl rfl ?_
    show Steps p.tables e below (T23.setTop (mkF m 130 #[.val (.int ja), .val (.int jb), .val (.int kk), .val (.int (6 : Int32)), .val (.ref b1), .val (.ref b3), .val (.ref b10), .unset] [(.ref b3), (.ref b10)])) _
    refine st25.trans ?_
    show Steps p.tables e below (T25.setTop (mkF m 133 #[.val (.int ja), .val (.int jb), .val (.int kk), .val (.int (6 : Int32)), .val (.ref b1), .val (.ref b3), .val (.ref b10), .unset] [(.int (1 : Int32))])) _
    refine XS.pop X25.here hx rfl (hb hby at_133) rfl rfl ?_
    show Steps p.tables e below (T25.setTop (mkF m 134 #[.val (.int ja), .val (.int jb), .val (.int kk), .val (.int (6 : Int32)), .val (.ref b1), .val (.ref b3), .val (.ref b10), .unset] [])) _
    refine XS.iloadN X25.here hx rfl (hb hby at_134) rfl ?_
    show Steps p.tables e below (T25.setTop (mkF m 135 #[.val (.int ja), .val (.int jb), .val (.int kk), .val (.int (6 : Int32)), .val (.ref b1), .val (.ref b3), .val (.ref b10), .unset] [(.int (6 : Int32))])) _
    refine XS.bipush X25.here hx rfl (hb hby at_135) ?_
    show Steps p.tables e below (T25.setTop (mkF m 137 #[.val (.int ja), .val (.int jb), .val (.int kk), .val (.int (6 : Int32)), .val (.ref b1), .val (.ref b3), .val (.ref b10), .unset] [(.int (6 : Int32)), (.int (6 : Int32))])) _
    refine XS.icmpYes X25.here hx rfl (pc0 := 137) (pc' := 148) rfl (hb hby at_137) rfl (flt (by decide : ¬ ((6 : Int32) < (6 : Int32)))).2.2.2 (by decide) (by decide) ?_
    show Steps p.tables e below (T25.setTop (mkF m 148 #[.val (.int ja), .val (.int jb), .val (.int kk), .val (.int (6 : Int32)), .val (.ref b1), .val (.ref b3), .val (.ref b10), .unset] [])) _
    refine XS.iloadN X25.here hx rfl (hb hby at_148) rfl ?_
    show Steps p.tables e below (T25.setTop (mkF m 149 #[.val (.int ja), .val (.int jb), .val (.int kk), .val (.int (6 : Int32)), .val (.ref b1), .val (.ref b3), .val (.ref b10), .unset] [(.int (6 : Int32))])) _
    refine XS.iloadN X25.here hx rfl (hb hby at_149) rfl ?_
    show Steps p.tables e below (T25.setTop (mkF m 150 #[.val (.int ja), .val (.int jb), .val (.int kk), .val (.int (6 : Int32)), .val (.ref b1), .val (.ref b3), .val (.ref b10), .unset] [(.int kk), (.int (6 : Int32))])) _
    refine XS.icmpYes X25.here hx rfl (pc0 := 150) (pc' := 157) rfl (hb hby at_150) rfl (tlt hrd).2.2.1 (by decide) (by decide) ?_
    show Steps p.tables e below (T25.setTop (mkF m 157 #[.val (.int ja), .val (.int jb), .val (.int kk), .val (.int (6 : Int32)), .val (.ref b1), .val (.ref b3), .val (.ref b10), .unset] [])) _
    refine XS.iconst X25.here hx rfl (hb hby at_157) ?_
    show Steps p.tables e below (T25.setTop (mkF m 158 #[.val (.int ja), .val (.int jb), .val (.int kk), .val (.int (6 : Int32)), .val (.ref b1), .val (.ref b3), .val (.ref b10), .unset] [(.int (0 : Int32))])) _
    refine XS.istore X25.here hx rfl (hb hby at_158) rfl (l' := #[.val (.int ja), .val (.int jb), .val (.int kk), .val (.int (6 : Int32)), .val (.ref b1), .val (.ref b3), .val (.ref b10), .val (.int (0 : Int32))]) rfl ?_
    show Steps p.tables e below (T25.setTop (mkF m 160 #[.val (.int ja), .val (.int jb), .val (.int kk), .val (.int (6 : Int32)), .val (.ref b1), .val (.ref b3), .val (.ref b10), .val (.int (0 : Int32))] [])) _
    refine XS.aload X25.here hx rfl (hb hby at_160) rfl rfl ?_
    show Steps p.tables e below (T25.setTop (mkF m 162 #[.val (.int ja), .val (.int jb), .val (.int kk), .val (.int (6 : Int32)), .val (.ref b1), .val (.ref b3), .val (.ref b10), .val (.int (0 : Int32))] [(.ref b1)])) _
    refine XS.aload X25.here hx rfl (hb hby at_162) rfl rfl ?_
    show Steps p.tables e below (T25.setTop (mkF m 164 #[.val (.int ja), .val (.int jb), .val (.int kk), .val (.int (6 : Int32)), .val (.ref b1), .val (.ref b3), .val (.ref b10), .val (.int (0 : Int32))] [(.ref b10), (.ref b1)])) _
    refine st27.trans ?_
    show Steps p.tables e below (T27.setTop (mkF m 167 #[.val (.int ja), .val (.int jb), .val (.int kk), .val (.int (6 : Int32)), .val (.ref b1), .val (.ref b3), .val (.ref b10), .val (.int (0 : Int32))] [(.int (0 : Int32))])) _
    refine XS.iload X27.here hx rfl (hb hby at_167) rfl ?_
    show Steps p.tables e below (T27.setTop (mkF m 169 #[.val (.int ja), .val (.int jb), .val (.int kk), .val (.int (6 : Int32)), .val (.ref b1), .val (.ref b3), .val (.ref b10), .val (.int (0 : Int32))] [(.int (0 : Int32)), (.int (0 : Int32))])) _
    refine XS.icmpNo X27.here hx rfl (hb hby at_169) rfl (teq (rfl : (0 : Int32) = (0 : Int32))).2 ?_
    show Steps p.tables e below (T27.setTop (mkF m 172 #[.val (.int ja), .val (.int jb), .val (.int kk), .val (.int (6 : Int32)), .val (.ref b1), .val (.ref b3), .val (.ref b10), .val (.int (0 : Int32))] [])) _
    refine XS.iconst X27.here hx rfl (hb hby at_172) ?_
    show Steps p.tables e below (T27.setTop (mkF m 173 #[.val (.int ja), .val (.int jb), .val (.int kk), .val (.int (6 : Int32)), .val (.ref b1), .val (.ref b3), .val (.ref b10), .val (.int (0 : Int32))] [(.int (1 : Int32))])) _
    refine XS.goto X27.here hx rfl (pc0 := 173) (pc' := 177) rfl (hb hby at_173) (by decide) (by decide) ?_
    show Steps p.tables e below (T27.setTop (mkF m 177 #[.val (.int ja), .val (.int jb), .val (.int kk), .val (.int (6 : Int32)), .val (.ref b1), .val (.ref b3), .val (.ref b10), .val (.int (0 : Int32))] [(.int (1 : Int32))])) _
    exact retN X27 hx (t := .boolean) Bd.returns (by simp) (hb hby at_177) hr
  · show Q_rm0_6t Z ja jb kk de kd h0 n0 _ T27.heap _
    rw [e27]
    exact ⟨rfl, N27⟩
def Q_rm0_6f (Z : State) (ja : Int32) (jb : Int32) (kk : Int32) (de : Addr) (kd : ClassId) (h0 : Heap) (n0 : Nat) (v : Option Value) (h : Heap) (L : List Loc) : Prop := v = some (.int (1 : Int32)) ∧ Fr n0 L
theorem ef_rm0_6f (m : MethodId) (ja : Int32) (jb : Int32) : entryFrame m #[(.int ja), (.int jb)] maxLocals = mkF m 0 #[.val (.int ja), .val (.int jb), .unset, .unset, .unset, .unset, .unset, .unset] [] := by first | (simp [entryFrame, mkF, argsToLocals, Value.category, maxLocals]; done) | rfl
set_option maxRecDepth 65536 in
set_option maxHeartbeats 40000000 in
theorem rm0_6f (l : Launch) (Z : State) (a0 : Array Value) (hw : ∀ d ∈ tables_1, d.before a0 Z = true) (ws : List Jvm.Cond) (ja : Int32) (jb : Int32) (kk : Int32) (de : Addr) (kd : ClassId) (h0 : Heap) (n0 : Nat) (Z0 : n0 ≤ h0.size) (hwS : ∀ a ∈ Bundle.stringAtoms, a.before a0 Z = true) (hn0 : n0 = h0.size) (hcn : Jvm.Lit.constHeld Z "com/example/sortition/sortition/SlotsAllowsPinLaw" 15) (hcw : Jvm.Lit.compactW.before a0 Z = true) (S_DE : Sta Z h0 "java/util/ArrayList" "DEFAULTCAPACITY_EMPTY_ELEMENTDATA" "[Ljava/lang/Object;" (.ref de)) (V_de : Arv Z h0 de kd (.object "java/lang/Object") (0 : Int32) [] .null) (hkk : (own_k ja jb) = kk) (gkk : ¬ (kk < (0 : Int32))) (hn : (jb &&& (7 : Int32)) = (6 : Int32)) (hrd : ¬ (kk < (6 : Int32))) :
    MetFree l x (head1 (Jvm.Cond.code x code maxLocals ret :: ws) room_1) (fun a U => a = #[(.int ja), (.int jb)] ∧ Z.Warmed39 U.vm ∧ U.heap = h0 ∧ U.vm.interned = Z.vm.interned ∧ (∀ (b : Addr) (cl : Cell), Z.heap[b]? = some cl → U.heap[b]? = some cl)) (fun _ _ _ _ _ => True) (fun _ U o U' => ∃ v L, o = .returned v ∧ Q_rm0_6f Z ja jb kk de kd h0 n0 v U'.heap L ∧ ReturnedEndW U o U' L room_1.cells room_1.slots) := by
  refine MetFree.of_bodySF (plainFor_of_name pn_8) hisR ?_
  intro p e s m args below meth c s₁ Bd hml0 hP hK
  obtain ⟨rfl, hZ, hh, hI0, hK0⟩ := hP
  have hx := Bd.exec
  have hby := Bd.bytes
  have hml : c.maxLocals = 8 := hml0
  have hown : s.vm.findClass "com/example/sortition/sortition/SlotsAllowsPinLaw" = some m.cls := findClass_of_methodNamed Bd.named
  have hnm := (name_of_methodNamed Bd.named Bd.method).1
  have X0 : Stand p l e room_1 s m #[(.int ja), (.int jb)] below meth c s₁ [] 0 0 := Stand.of_body Bd
  have e0 : s₁.heap = h0 := by rw [← hh, Bd.state]; rfl
  have N0 := Fr.nil n0
  have hS0 := (State.WarmedH.refl s).since 0
  have pre0 : ∀ t, Steps p.tables e below (s₁.setTop (mkF m 0 #[.val (.int ja), .val (.int jb), .unset, .unset, .unset, .unset, .unset, .unset] [])) t → Steps p.tables e below (s₁.setTop (entryFrame m #[(.int ja), (.int jb)] maxLocals)) t := fun t k => castTop (ef_rm0_6f m ja jb) k
  have stp := own_pre ja jb X0 hx hZ hw hby hown
  rw [hkk] at stp
  obtain ⟨T1, h1, X1, e1, E1, A1, D1, -, st1⟩ := newO X0 hx hZ hown (ow hw 0 rfl) (ow hw 1 rfl) (ow hw 2 rfl) e0 (g := (mkF m 25 #[.val (.int ja), .val (.int jb), .val (.int kk), .val (.int (6 : Int32)), .unset, .unset, .unset, .unset] [])) rfl (hb hby at_25) (by decide) (by decide)
  obtain ⟨b1, g1⟩ : ∃ z, z = h0.size := ⟨_, rfl⟩
  rw [← g1] at A1 D1 st1
  have F1_3 : Fld Z h1 b1 "com/example/sortition/sortition/Slots" "size" "I" (.int (0 : Int32)) := D1 (Or.inr (ow hw 15 rfl)) (ty := .int) (by decide)
  obtain ⟨_, _, ⟨T2, L2, k2, n2⟩, -, X2, ⟨Lc2, hQ2, l2, y2, z2⟩, st2⟩ := X1.specialBack hx (y := (⟨"com/example/sortition/sortition/Slots", "<init>", "(I)V"⟩ : MethodName)) rfl hown (mvT hZ (ow hw 3 rfl)) (mvT hZ (ow hw 4 rfl)) (mvT hZ (ow hw 5 rfl)) (by decide) (backOf (W := 1) (rmSl l Z a0 hw [] b1 kk (.int (0 : Int32)) h1 n0 (Nat.le_trans Z0 E1.1) gkk F1_3 A1 (Nat.le_trans Z0 (Nat.le_of_eq g1.symm))) hZ (ow hw 5 rfl) (ow hw 2 rfl) (by decide) (by decide)) (g := (mkF m 30 #[.val (.int ja), .val (.int jb), .val (.int kk), .val (.int (6 : Int32)), .unset, .unset, .unset, .unset] [(.int kk), (.ref b1), (.ref b1)])) rfl (by rw [hml]; rfl) (Steps.refl _) (a := b1) (argsL := [(.int kk)]) (rest := [(.ref b1)]) (lenOf pd_8 rfl) rfl (by show 2 * 0 + _ ≤ _; exact Nat.le_of_eq rfl) (hb hby at_30) (fun _ _ => ⟨rfl, e1, (by decide : 1 + 0 ≤ _), (by decide : 1 + 0 ≤ _)⟩)
  dsimp only [Pt.U, Pt.locs, Pt.cells, Pt.slots] at X2 l2 y2 z2 st2 hQ2
  subst l2 y2 z2
  obtain ⟨rfl, Nq2, Kp2, Fq2_0, Fq2_1⟩ := hQ2
  have N2 := Fr.app N0 Nq2
  obtain ⟨T3, h3, X3, e3, E3, A3, D3, -, st3⟩ := newO X2 hx hZ hown (ow hw 16 rfl) (ow hw 17 rfl) (ow hw 18 rfl) rfl (g := (mkF m 35 #[.val (.int ja), .val (.int jb), .val (.int kk), .val (.int (6 : Int32)), .val (.ref b1), .unset, .unset, .unset] [])) rfl (hb hby at_35) (by decide) (by decide)
  obtain ⟨b3, g3⟩ : ∃ z, z = T2.heap.size := ⟨_, rfl⟩
  rw [← g3] at A3 D3 st3
  have F3_5 : Fld Z h3 b3 "com/example/sortition/sortition/Element" "index" "I" (.int (0 : Int32)) := D3 (Or.inr (ow hw 44 rfl)) (ty := .int) (by decide)
  have F3_6 : Fld Z h3 b3 "com/example/sortition/sortition/Element" "id" "Ljava/lang/String;" .null := D3 (Or.inr (ow hw 46 rfl)) (ty := (.object "java/lang/String")) (by decide)
  have F3_7 : Fld Z h3 b3 "com/example/sortition/sortition/Element" "value" "D" (.double 0) := D3 (Or.inr (ow hw 48 rfl)) (ty := .double) (by decide)
  obtain ⟨a4, T4, h4, k4, b4, kc4, X4, e4, E4, hS4, hk4, hZ4, hown4, A4, -, Fv4, V4, -, -, -, st4⟩ := ldcSV (s := s) (vm0 := s.vm) X3 hx hZ hown (ow hw 19 rfl) hwS e3 hS0 (Nat.le_trans (Nat.le_trans (Nat.le_trans (Nat.zero_le _) E1.1) Kp2.1) E3.1) (by rw [hh, ← hn0]; exact N2) hK0 (⟨#[], by simpa using hI0, fun q hq => by simp at hq⟩ : IB Z s.vm []) (by simp) hcn hcw (vs := [(.int (120 : Int32))]) (z := (1 : Int32)) ⟨by decide, by decide⟩ (by decide) rfl (g := (mkF m 40 #[.val (.int ja), .val (.int jb), .val (.int kk), .val (.int (6 : Int32)), .val (.ref b1), .unset, .unset, .unset] [(.int (0 : Int32)), (.ref b3), (.ref b3)])) rfl (hb hby at_40) (n := 4) (by decide) (by decide) (by decide) (by decide)
  have f6 : Fld Z h4 b3 "com/example/sortition/sortition/Element" "index" "I" (.int (0 : Int32)) := (F3_5.ext E4)
  have f7 : Exa Z h4 b3 "com/example/sortition/sortition/Element" := (A3.ext E4)
  have f8 : Fld Z h4 b3 "com/example/sortition/sortition/Element" "id" "Ljava/lang/String;" .null := (F3_6.ext E4)
  have f9 : Fld Z h4 b3 "com/example/sortition/sortition/Element" "value" "D" (.double 0) := (F3_7.ext E4)
  obtain ⟨_, _, ⟨T5, L5, k5, n5⟩, -, X5, hSq5, hgq5, ⟨Lc5, hQ5, l5, y5, z5⟩, st5⟩ := X4.specialBackS hx (y := (⟨"com/example/sortition/sortition/Element", "<init>", "(ILjava/lang/String;D)V"⟩ : MethodName)) rfl hown4 (mvT hZ4 (ow hw 27 rfl)) (mvT hZ4 (ow hw 28 rfl)) (mvT hZ4 (ow hw 29 rfl)) (by decide) (backOfS (W := 1) (rmEI l Z a0 hw [] b3 (0 : Int32) a4 4607182418800017408 b4 kc4 [(.int (120 : Int32))] (.int (0 : Int32)) .null (.double 0) h4 n0 (Nat.le_trans (Nat.le_trans (Nat.le_trans (Nat.le_trans Z0 E1.1) Kp2.1) E3.1) E4.1) hwS A4 Fv4 V4 (by first | assumption | decide) (by decide +kernel) (by decide +kernel) own_nn1 f6 f7 (Nat.le_trans (Nat.le_trans (Nat.le_trans Z0 E1.1) Kp2.1) (Nat.le_of_eq g3.symm)) f8 f9) hZ4 (ow hw 29 rfl) (ow hw 18 rfl) (by decide) (by decide)) (g := (mkF m 43 #[.val (.int ja), .val (.int jb), .val (.int kk), .val (.int (6 : Int32)), .val (.ref b1), .unset, .unset, .unset] [(.double 4607182418800017408), (.ref a4), (.int (0 : Int32)), (.ref b3), (.ref b3)])) rfl (by rw [hml]; rfl) (Steps.refl _) (a := b3) (argsL := [(.int (0 : Int32)), (.ref a4), (.double 4607182418800017408)]) (rest := [(.ref b3)]) (lenOf pd_9 rfl) rfl (by show 2 * 0 + _ ≤ _; exact Nat.le_of_eq rfl) (hb hby at_43) (fun _ _ => ⟨rfl, e4, (by decide : 4 + 2 ≤ _), (by decide : 12 + 12 ≤ _)⟩)
  dsimp only [Pt.U, Pt.locs, Pt.cells, Pt.slots] at X5 l5 y5 z5 st5 hQ5 hSq5 hgq5
  subst l5 y5 z5
  obtain ⟨X5, hS5, hZ5, hown5⟩ := rebS (s := s) (vm0 := T4.vm) hS4 (by rw [e4]; exact hk4) X5 hSq5 hgq5 hZ4 hown4
  obtain ⟨rfl, Nq5, Kp5, Fq5_0, Fq5_1, Fq5_2⟩ := hQ5
  have N5 := Fr.app N2 Nq5
  obtain ⟨T10, h10, X10, e10, E10, A10, D10, -, st10⟩ := newO X5 hx hZ5 hown5 (ow hw 49 rfl) (ow hw 50 rfl) (ow hw 51 rfl) rfl (g := (mkF m 48 #[.val (.int ja), .val (.int jb), .val (.int kk), .val (.int (6 : Int32)), .val (.ref b1), .val (.ref b3), .unset, .unset] [])) rfl (hb hby at_48) (by decide) (by decide)
  obtain ⟨b10, g10⟩ : ∃ z, z = T5.heap.size := ⟨_, rfl⟩
  rw [← g10] at A10 D10 st10
  have F10_12 : Fld Z h10 b10 "java/util/AbstractList" "modCount" "I" (.int (0 : Int32)) := D10 (Or.inl (ow hw 69 rfl)) (ty := .int) (by decide)
  have F10_13 : Fld Z h10 b10 "java/util/ArrayList" "elementData" "[Ljava/lang/Object;" .null := D10 (Or.inl (ow hw 72 rfl)) (ty := (.array (.object "java/lang/Object"))) (by decide)
  have F10_14 : Fld Z h10 b10 "java/util/ArrayList" "size" "I" (.int (0 : Int32)) := D10 (Or.inl (ow hw 81 rfl)) (ty := .int) (by decide)
  have f12 : Sta Z h10 "java/util/ArrayList" "DEFAULTCAPACITY_EMPTY_ELEMENTDATA" "[Ljava/lang/Object;" (.ref de) := ((Sta_keep (((Sta_keep (S_DE.ext E1) Kp2 (nsS A1.nostat ns0)).ext E3).ext E4) Kp5 (nsS f7.nostat ns0)).ext E10)
  obtain ⟨_, _, ⟨T11, L11, k11, n11⟩, -, X11, ⟨Lc11, hQ11, l11, y11, z11⟩, st11⟩ := X10.specialBack hx (y := (⟨"java/util/ArrayList", "<init>", "()V"⟩ : MethodName)) rfl hown5 (mvT hZ5 (ow hw 52 rfl)) (mvT hZ5 (ow hw 53 rfl)) (mvT hZ5 (ow hw 54 rfl)) (by decide) (backOf (W := 1) (rmAL l Z a0 hw [] b10 de (.int (0 : Int32)) .null h10 n0 (Nat.le_trans (Nat.le_trans (Nat.le_trans (Nat.le_trans (Nat.le_trans (Nat.le_trans Z0 E1.1) Kp2.1) E3.1) E4.1) Kp5.1) E10.1) A10 F10_12 F10_13 f12 F10_14 (Nat.le_trans (Nat.le_trans (Nat.le_trans (Nat.le_trans (Nat.le_trans (Nat.le_trans Z0 E1.1) Kp2.1) E3.1) E4.1) Kp5.1) (Nat.le_of_eq g10.symm))) hZ5 (ow hw 54 rfl) (ow hw 51 rfl) (by decide) (by decide)) (g := (mkF m 52 #[.val (.int ja), .val (.int jb), .val (.int kk), .val (.int (6 : Int32)), .val (.ref b1), .val (.ref b3), .unset, .unset] [(.ref b10), (.ref b10)])) rfl (by rw [hml]; rfl) (Steps.refl _) (a := b10) (argsL := []) (rest := [(.ref b10)]) (lenOf pd_0 rfl) rfl (by show 2 * 0 + _ ≤ _; exact Nat.le_of_eq rfl) (hb hby at_52) (fun _ _ => ⟨rfl, e10, (by decide : 7 + 0 ≤ _), (by decide : 27 + 0 ≤ _)⟩)
  dsimp only [Pt.U, Pt.locs, Pt.cells, Pt.slots] at X11 l11 y11 z11 st11 hQ11
  subst l11 y11 z11
  obtain ⟨rfl, Nq11, Kp11, Fq11_0, Fq11_1, Fq11_2, Fq11_3⟩ := hQ11
  have N11 := Fr.app N5 Nq11
  have f14 : Arv Z T11.heap de kd (.object "java/lang/Object") (0 : Int32) [] .null := (((((((V_de.ext E1).keep Kp2 (ninS (Nat.ne_of_lt (Nat.lt_of_lt_of_le V_de.lt (Nat.le_of_eq g1.symm))) nin0)).ext E3).ext E4).keep Kp5 (ninS (Nat.ne_of_lt (Nat.lt_of_lt_of_le ((V_de.ext E1).keep Kp2 (ninS (Nat.ne_of_lt (Nat.lt_of_lt_of_le V_de.lt (Nat.le_of_eq g1.symm))) nin0)).lt (Nat.le_of_eq g3.symm))) nin0)).ext E10).keep Kp11 (ninS (Nat.ne_of_lt (Nat.lt_of_lt_of_le (((((V_de.ext E1).keep Kp2 (ninS (Nat.ne_of_lt (Nat.lt_of_lt_of_le V_de.lt (Nat.le_of_eq g1.symm))) nin0)).ext E3).ext E4).keep Kp5 (ninS (Nat.ne_of_lt (Nat.lt_of_lt_of_le ((V_de.ext E1).keep Kp2 (ninS (Nat.ne_of_lt (Nat.lt_of_lt_of_le V_de.lt (Nat.le_of_eq g1.symm))) nin0)).lt (Nat.le_of_eq g3.symm))) nin0)).lt (Nat.le_of_eq g10.symm))) nin0))
  have f15 : Sta Z T11.heap "java/util/ArrayList" "DEFAULTCAPACITY_EMPTY_ELEMENTDATA" "[Ljava/lang/Object;" (.ref de) := (Sta_keep f12 Kp11 (nsS A10.nostat ns0))
  have f16 : Exa Z T11.heap b3 "com/example/sortition/sortition/Element" := ((Fq5_0.ext E10).keep Kp11)
  obtain ⟨cq13, kq13, q13a, q13b, q13c⟩ := isOf hZ5 rfl Fq11_0
  obtain ⟨_, _, ⟨T13, L13, k13, n13⟩, -, X13, ⟨Lc13, hQ13, l13, y13, z13⟩, st13⟩ := X11.virtualBack hx (y := (⟨"java/util/ArrayList", "add", "(Ljava/lang/Object;)Z"⟩ : MethodName)) (z := (⟨"java/util/ArrayList", "add", "(Ljava/lang/Object;)Z"⟩ : MethodName)) hown5 (mvT hZ5 (ow hw 73 rfl)) (mvT hZ5 (ow hw 74 rfl)) (notFace_of_selects (args := #[]) (mvT hZ5 (ow hw 76 rfl))) (mvT hZ5 (ow hw 76 rfl)) (mvT hZ5 (ow hw 75 rfl)) (by decide) (backOf (W := 0) (rmA0 l Z a0 hw [] b10 b3 de kd (0 : Int32) T11.heap n0 (Nat.le_trans (Nat.le_trans (Nat.le_trans (Nat.le_trans (Nat.le_trans (Nat.le_trans (Nat.le_trans Z0 E1.1) Kp2.1) E3.1) E4.1) Kp5.1) E10.1) Kp11.1) Fq11_1 Fq11_0 Fq11_2 Fq11_3 f14 f15 f16 (Nat.le_trans (Nat.le_trans (Nat.le_trans (Nat.le_trans (Nat.le_trans (Nat.le_trans Z0 E1.1) Kp2.1) E3.1) E4.1) Kp5.1) (Nat.le_of_eq g10.symm)) (Nat.ne_of_lt (Nat.lt_of_lt_of_le (((((V_de.ext E1).keep Kp2 (ninS (Nat.ne_of_lt (Nat.lt_of_lt_of_le V_de.lt (Nat.le_of_eq g1.symm))) nin0)).ext E3).ext E4).keep Kp5 (ninS (Nat.ne_of_lt (Nat.lt_of_lt_of_le ((V_de.ext E1).keep Kp2 (ninS (Nat.ne_of_lt (Nat.lt_of_lt_of_le V_de.lt (Nat.le_of_eq g1.symm))) nin0)).lt (Nat.le_of_eq g3.symm))) nin0)).lt (Nat.le_of_eq g10.symm)))) hZ5 (ow hw 77 rfl) (ow hw 51 rfl) (by decide) (by decide)) q13a q13c (g := (mkF m 65 #[.val (.int ja), .val (.int jb), .val (.int kk), .val (.int (6 : Int32)), .val (.ref b1), .val (.ref b3), .val (.ref b10), .unset] [(.ref b3), (.ref b10)])) rfl (by rw [hml]; rfl) (Steps.refl _) (argsL := [(.ref b3)]) (rest := []) (lenOf pd_11 rfl) rfl (by show 2 * 0 + _ ≤ _; exact Nat.le_of_eq rfl) (hb hby at_65) (fun _ _ => ⟨rfl, rfl, (by decide : 7 + 1 ≤ _), (by decide : 27 + 10 ≤ _)⟩)
  dsimp only [Pt.U, Pt.locs, Pt.cells, Pt.slots] at X13 l13 y13 z13 st13 hQ13
  subst l13 y13 z13
  obtain ⟨nb_13, ka_13, rfl, Nq13, gb13_0, Kp13, Fq13_0, Fq13_1, Fq13_2, Fq13_3, Fq13_4, Pq13_0⟩ := hQ13
  have N13 := Fr.app N11 Nq13
  have f18 : Exa Z T13.heap b3 "com/example/sortition/sortition/Element" := (f16.keep Kp13)
  obtain ⟨cq17, kq17, q17a, q17b, q17c⟩ := isOf hZ5 rfl Fq13_0
  obtain ⟨_, _, ⟨T17, L17, k17, n17⟩, -, X17, ⟨Lc17, hQ17, l17, y17, z17⟩, st17⟩ := X13.virtualBack hx (y := (⟨"java/util/ArrayList", "add", "(Ljava/lang/Object;)Z"⟩ : MethodName)) (z := (⟨"java/util/ArrayList", "add", "(Ljava/lang/Object;)Z"⟩ : MethodName)) hown5 (mvT hZ5 (ow hw 73 rfl)) (mvT hZ5 (ow hw 74 rfl)) (notFace_of_selects (args := #[]) (mvT hZ5 (ow hw 76 rfl))) (mvT hZ5 (ow hw 76 rfl)) (mvT hZ5 (ow hw 75 rfl)) (by decide) (backOf (W := 0) (rmA1 l Z a0 hw [] b10 b3 nb_13 ka_13 ((0 : Int32) + (1 : Int32)) T13.heap n0 (Nat.le_trans (Nat.le_trans (Nat.le_trans (Nat.le_trans (Nat.le_trans (Nat.le_trans (Nat.le_trans (Nat.le_trans Z0 E1.1) Kp2.1) E3.1) E4.1) Kp5.1) E10.1) Kp11.1) Kp13.1) Fq13_1 Fq13_0 Fq13_2 Fq13_3 Fq13_4 Pq13_0 f18 (Nat.le_trans (Nat.le_trans (Nat.le_trans (Nat.le_trans (Nat.le_trans (Nat.le_trans Z0 E1.1) Kp2.1) E3.1) E4.1) Kp5.1) (Nat.le_of_eq g10.symm)) (Ne.symm (Nat.ne_of_lt (Nat.lt_of_lt_of_le Fq11_0.lt gb13_0))) (Nat.le_trans (Nat.le_trans (Nat.le_trans (Nat.le_trans (Nat.le_trans (Nat.le_trans (Nat.le_trans (Nat.le_trans Z0 E1.1) Kp2.1) E3.1) E4.1) Kp5.1) E10.1) Kp11.1) gb13_0)) hZ5 (ow hw 77 rfl) (ow hw 51 rfl) (by decide) (by decide)) q17a q17c (g := (mkF m 78 #[.val (.int ja), .val (.int jb), .val (.int kk), .val (.int (6 : Int32)), .val (.ref b1), .val (.ref b3), .val (.ref b10), .unset] [(.ref b3), (.ref b10)])) rfl (by rw [hml]; rfl) (Steps.refl _) (argsL := [(.ref b3)]) (rest := []) (lenOf pd_11 rfl) rfl (by show 2 * 0 + _ ≤ _; exact Nat.le_of_eq rfl) (hb hby at_78) (fun _ _ => ⟨rfl, rfl, (by decide : 8 + 0 ≤ _), (by decide : 37 + 0 ≤ _)⟩)
  dsimp only [Pt.U, Pt.locs, Pt.cells, Pt.slots] at X17 l17 y17 z17 st17 hQ17
  subst l17 y17 z17
  obtain ⟨rfl, Nq17, Kp17, Fq17_0, Fq17_1, Fq17_2, Fq17_3, Fq17_4⟩ := hQ17
  have N17 := Fr.app N13 Nq17
  have f20 : Exa Z T17.heap b3 "com/example/sortition/sortition/Element" := (f18.keep Kp17)
  obtain ⟨cq19, kq19, q19a, q19b, q19c⟩ := isOf hZ5 rfl Fq17_0
  obtain ⟨_, _, ⟨T19, L19, k19, n19⟩, -, X19, ⟨Lc19, hQ19, l19, y19, z19⟩, st19⟩ := X17.virtualBack hx (y := (⟨"java/util/ArrayList", "add", "(Ljava/lang/Object;)Z"⟩ : MethodName)) (z := (⟨"java/util/ArrayList", "add", "(Ljava/lang/Object;)Z"⟩ : MethodName)) hown5 (mvT hZ5 (ow hw 73 rfl)) (mvT hZ5 (ow hw 74 rfl)) (notFace_of_selects (args := #[]) (mvT hZ5 (ow hw 76 rfl))) (mvT hZ5 (ow hw 76 rfl)) (mvT hZ5 (ow hw 75 rfl)) (by decide) (backOf (W := 0) (rmA2 l Z a0 hw [] b10 b3 nb_13 ka_13 (((0 : Int32) + (1 : Int32)) + (1 : Int32)) T17.heap n0 (Nat.le_trans (Nat.le_trans (Nat.le_trans (Nat.le_trans (Nat.le_trans (Nat.le_trans (Nat.le_trans (Nat.le_trans (Nat.le_trans Z0 E1.1) Kp2.1) E3.1) E4.1) Kp5.1) E10.1) Kp11.1) Kp13.1) Kp17.1) Fq17_1 Fq17_0 Fq17_2 Fq17_3 Fq17_4 Pq13_0 f20 (Nat.le_trans (Nat.le_trans (Nat.le_trans (Nat.le_trans (Nat.le_trans (Nat.le_trans Z0 E1.1) Kp2.1) E3.1) E4.1) Kp5.1) (Nat.le_of_eq g10.symm)) (Ne.symm (Nat.ne_of_lt (Nat.lt_of_lt_of_le Fq11_0.lt gb13_0))) (Nat.le_trans (Nat.le_trans (Nat.le_trans (Nat.le_trans (Nat.le_trans (Nat.le_trans (Nat.le_trans (Nat.le_trans Z0 E1.1) Kp2.1) E3.1) E4.1) Kp5.1) E10.1) Kp11.1) gb13_0)) hZ5 (ow hw 77 rfl) (ow hw 51 rfl) (by decide) (by decide)) q19a q19c (g := (mkF m 91 #[.val (.int ja), .val (.int jb), .val (.int kk), .val (.int (6 : Int32)), .val (.ref b1), .val (.ref b3), .val (.ref b10), .unset] [(.ref b3), (.ref b10)])) rfl (by rw [hml]; rfl) (Steps.refl _) (argsL := [(.ref b3)]) (rest := []) (lenOf pd_11 rfl) rfl (by show 2 * 0 + _ ≤ _; exact Nat.le_of_eq rfl) (hb hby at_91) (fun _ _ => ⟨rfl, rfl, (by decide : 8 + 0 ≤ _), (by decide : 37 + 0 ≤ _)⟩)
  dsimp only [Pt.U, Pt.locs, Pt.cells, Pt.slots] at X19 l19 y19 z19 st19 hQ19
  subst l19 y19 z19
  obtain ⟨rfl, Nq19, Kp19, Fq19_0, Fq19_1, Fq19_2, Fq19_3, Fq19_4⟩ := hQ19
  have N19 := Fr.app N17 Nq19
  have f22 : Exa Z T19.heap b3 "com/example/sortition/sortition/Element" := (f20.keep Kp19)
  obtain ⟨cq21, kq21, q21a, q21b, q21c⟩ := isOf hZ5 rfl Fq19_0
  obtain ⟨_, _, ⟨T21, L21, k21, n21⟩, -, X21, ⟨Lc21, hQ21, l21, y21, z21⟩, st21⟩ := X19.virtualBack hx (y := (⟨"java/util/ArrayList", "add", "(Ljava/lang/Object;)Z"⟩ : MethodName)) (z := (⟨"java/util/ArrayList", "add", "(Ljava/lang/Object;)Z"⟩ : MethodName)) hown5 (mvT hZ5 (ow hw 73 rfl)) (mvT hZ5 (ow hw 74 rfl)) (notFace_of_selects (args := #[]) (mvT hZ5 (ow hw 76 rfl))) (mvT hZ5 (ow hw 76 rfl)) (mvT hZ5 (ow hw 75 rfl)) (by decide) (backOf (W := 0) (rmA3 l Z a0 hw [] b10 b3 nb_13 ka_13 ((((0 : Int32) + (1 : Int32)) + (1 : Int32)) + (1 : Int32)) T19.heap n0 (Nat.le_trans (Nat.le_trans (Nat.le_trans (Nat.le_trans (Nat.le_trans (Nat.le_trans (Nat.le_trans (Nat.le_trans (Nat.le_trans (Nat.le_trans Z0 E1.1) Kp2.1) E3.1) E4.1) Kp5.1) E10.1) Kp11.1) Kp13.1) Kp17.1) Kp19.1) Fq19_1 Fq19_0 Fq19_2 Fq19_3 Fq19_4 Pq13_0 f22 (Nat.le_trans (Nat.le_trans (Nat.le_trans (Nat.le_trans (Nat.le_trans (Nat.le_trans Z0 E1.1) Kp2.1) E3.1) E4.1) Kp5.1) (Nat.le_of_eq g10.symm)) (Ne.symm (Nat.ne_of_lt (Nat.lt_of_lt_of_le Fq11_0.lt gb13_0))) (Nat.le_trans (Nat.le_trans (Nat.le_trans (Nat.le_trans (Nat.le_trans (Nat.le_trans (Nat.le_trans (Nat.le_trans Z0 E1.1) Kp2.1) E3.1) E4.1) Kp5.1) E10.1) Kp11.1) gb13_0)) hZ5 (ow hw 77 rfl) (ow hw 51 rfl) (by decide) (by decide)) q21a q21c (g := (mkF m 104 #[.val (.int ja), .val (.int jb), .val (.int kk), .val (.int (6 : Int32)), .val (.ref b1), .val (.ref b3), .val (.ref b10), .unset] [(.ref b3), (.ref b10)])) rfl (by rw [hml]; rfl) (Steps.refl _) (argsL := [(.ref b3)]) (rest := []) (lenOf pd_11 rfl) rfl (by show 2 * 0 + _ ≤ _; exact Nat.le_of_eq rfl) (hb hby at_104) (fun _ _ => ⟨rfl, rfl, (by decide : 8 + 0 ≤ _), (by decide : 37 + 0 ≤ _)⟩)
  dsimp only [Pt.U, Pt.locs, Pt.cells, Pt.slots] at X21 l21 y21 z21 st21 hQ21
  subst l21 y21 z21
  obtain ⟨rfl, Nq21, Kp21, Fq21_0, Fq21_1, Fq21_2, Fq21_3, Fq21_4⟩ := hQ21
  have N21 := Fr.app N19 Nq21
  have f24 : Exa Z T21.heap b3 "com/example/sortition/sortition/Element" := (f22.keep Kp21)
  obtain ⟨cq23, kq23, q23a, q23b, q23c⟩ := isOf hZ5 rfl Fq21_0
  obtain ⟨_, _, ⟨T23, L23, k23, n23⟩, -, X23, ⟨Lc23, hQ23, l23, y23, z23⟩, st23⟩ := X21.virtualBack hx (y := (⟨"java/util/ArrayList", "add", "(Ljava/lang/Object;)Z"⟩ : MethodName)) (z := (⟨"java/util/ArrayList", "add", "(Ljava/lang/Object;)Z"⟩ : MethodName)) hown5 (mvT hZ5 (ow hw 73 rfl)) (mvT hZ5 (ow hw 74 rfl)) (notFace_of_selects (args := #[]) (mvT hZ5 (ow hw 76 rfl))) (mvT hZ5 (ow hw 76 rfl)) (mvT hZ5 (ow hw 75 rfl)) (by decide) (backOf (W := 0) (rmA4 l Z a0 hw [] b10 b3 nb_13 ka_13 (((((0 : Int32) + (1 : Int32)) + (1 : Int32)) + (1 : Int32)) + (1 : Int32)) T21.heap n0 (Nat.le_trans (Nat.le_trans (Nat.le_trans (Nat.le_trans (Nat.le_trans (Nat.le_trans (Nat.le_trans (Nat.le_trans (Nat.le_trans (Nat.le_trans (Nat.le_trans Z0 E1.1) Kp2.1) E3.1) E4.1) Kp5.1) E10.1) Kp11.1) Kp13.1) Kp17.1) Kp19.1) Kp21.1) Fq21_1 Fq21_0 Fq21_2 Fq21_3 Fq21_4 Pq13_0 f24 (Nat.le_trans (Nat.le_trans (Nat.le_trans (Nat.le_trans (Nat.le_trans (Nat.le_trans Z0 E1.1) Kp2.1) E3.1) E4.1) Kp5.1) (Nat.le_of_eq g10.symm)) (Ne.symm (Nat.ne_of_lt (Nat.lt_of_lt_of_le Fq11_0.lt gb13_0))) (Nat.le_trans (Nat.le_trans (Nat.le_trans (Nat.le_trans (Nat.le_trans (Nat.le_trans (Nat.le_trans (Nat.le_trans Z0 E1.1) Kp2.1) E3.1) E4.1) Kp5.1) E10.1) Kp11.1) gb13_0)) hZ5 (ow hw 77 rfl) (ow hw 51 rfl) (by decide) (by decide)) q23a q23c (g := (mkF m 117 #[.val (.int ja), .val (.int jb), .val (.int kk), .val (.int (6 : Int32)), .val (.ref b1), .val (.ref b3), .val (.ref b10), .unset] [(.ref b3), (.ref b10)])) rfl (by rw [hml]; rfl) (Steps.refl _) (argsL := [(.ref b3)]) (rest := []) (lenOf pd_11 rfl) rfl (by show 2 * 0 + _ ≤ _; exact Nat.le_of_eq rfl) (hb hby at_117) (fun _ _ => ⟨rfl, rfl, (by decide : 8 + 0 ≤ _), (by decide : 37 + 0 ≤ _)⟩)
  dsimp only [Pt.U, Pt.locs, Pt.cells, Pt.slots] at X23 l23 y23 z23 st23 hQ23
  subst l23 y23 z23
  obtain ⟨rfl, Nq23, Kp23, Fq23_0, Fq23_1, Fq23_2, Fq23_3, Fq23_4⟩ := hQ23
  have N23 := Fr.app N21 Nq23
  have f26 : Exa Z T23.heap b3 "com/example/sortition/sortition/Element" := (f24.keep Kp23)
  obtain ⟨cq25, kq25, q25a, q25b, q25c⟩ := isOf hZ5 rfl Fq23_0
  obtain ⟨_, _, ⟨T25, L25, k25, n25⟩, -, X25, ⟨Lc25, hQ25, l25, y25, z25⟩, st25⟩ := X23.virtualBack hx (y := (⟨"java/util/ArrayList", "add", "(Ljava/lang/Object;)Z"⟩ : MethodName)) (z := (⟨"java/util/ArrayList", "add", "(Ljava/lang/Object;)Z"⟩ : MethodName)) hown5 (mvT hZ5 (ow hw 73 rfl)) (mvT hZ5 (ow hw 74 rfl)) (notFace_of_selects (args := #[]) (mvT hZ5 (ow hw 76 rfl))) (mvT hZ5 (ow hw 76 rfl)) (mvT hZ5 (ow hw 75 rfl)) (by decide) (backOf (W := 0) (rmA5 l Z a0 hw [] b10 b3 nb_13 ka_13 ((((((0 : Int32) + (1 : Int32)) + (1 : Int32)) + (1 : Int32)) + (1 : Int32)) + (1 : Int32)) T23.heap n0 (Nat.le_trans (Nat.le_trans (Nat.le_trans (Nat.le_trans (Nat.le_trans (Nat.le_trans (Nat.le_trans (Nat.le_trans (Nat.le_trans (Nat.le_trans (Nat.le_trans (Nat.le_trans Z0 E1.1) Kp2.1) E3.1) E4.1) Kp5.1) E10.1) Kp11.1) Kp13.1) Kp17.1) Kp19.1) Kp21.1) Kp23.1) Fq23_1 Fq23_0 Fq23_2 Fq23_3 Fq23_4 Pq13_0 f26 (Nat.le_trans (Nat.le_trans (Nat.le_trans (Nat.le_trans (Nat.le_trans (Nat.le_trans Z0 E1.1) Kp2.1) E3.1) E4.1) Kp5.1) (Nat.le_of_eq g10.symm)) (Ne.symm (Nat.ne_of_lt (Nat.lt_of_lt_of_le Fq11_0.lt gb13_0))) (Nat.le_trans (Nat.le_trans (Nat.le_trans (Nat.le_trans (Nat.le_trans (Nat.le_trans (Nat.le_trans (Nat.le_trans Z0 E1.1) Kp2.1) E3.1) E4.1) Kp5.1) E10.1) Kp11.1) gb13_0)) hZ5 (ow hw 77 rfl) (ow hw 51 rfl) (by decide) (by decide)) q25a q25c (g := (mkF m 130 #[.val (.int ja), .val (.int jb), .val (.int kk), .val (.int (6 : Int32)), .val (.ref b1), .val (.ref b3), .val (.ref b10), .unset] [(.ref b3), (.ref b10)])) rfl (by rw [hml]; rfl) (Steps.refl _) (argsL := [(.ref b3)]) (rest := []) (lenOf pd_11 rfl) rfl (by show 2 * 0 + _ ≤ _; exact Nat.le_of_eq rfl) (hb hby at_130) (fun _ _ => ⟨rfl, rfl, (by decide : 8 + 0 ≤ _), (by decide : 37 + 0 ≤ _)⟩)
  dsimp only [Pt.U, Pt.locs, Pt.cells, Pt.slots] at X25 l25 y25 z25 st25 hQ25
  subst l25 y25 z25
  obtain ⟨rfl, Nq25, Kp25, Fq25_0, Fq25_1, Fq25_2, Fq25_3, Fq25_4⟩ := hQ25
  have N25 := Fr.app N23 Nq25
  have f28 : Fld Z T25.heap b1 "com/example/sortition/sortition/Slots" "size" "I" (.int kk) := (((((((((((Fq2_1.ext E3).ext E4).keep Kp5 (ninS (Nat.ne_of_lt (Nat.lt_of_lt_of_le Fq2_0.lt (Nat.le_of_eq g3.symm))) nin0)).ext E10).keep Kp11 (ninS (Nat.ne_of_lt (Nat.lt_of_lt_of_le (((Fq2_0.ext E3).ext E4).keep Kp5).lt (Nat.le_of_eq g10.symm))) nin0)).keep Kp13 (ninS (Nat.ne_of_lt (Nat.lt_of_lt_of_le (((Fq2_0.ext E3).ext E4).keep Kp5).lt (Nat.le_of_eq g10.symm))) nin0)).keep Kp17 (ninS (Nat.ne_of_lt (Nat.lt_of_lt_of_le (((Fq2_0.ext E3).ext E4).keep Kp5).lt (Nat.le_of_eq g10.symm))) (ninS (Nat.ne_of_lt (Nat.lt_of_lt_of_le (((((Fq2_0.ext E3).ext E4).keep Kp5).ext E10).keep Kp11).lt gb13_0)) nin0))).keep Kp19 (ninS (Nat.ne_of_lt (Nat.lt_of_lt_of_le (((Fq2_0.ext E3).ext E4).keep Kp5).lt (Nat.le_of_eq g10.symm))) (ninS (Nat.ne_of_lt (Nat.lt_of_lt_of_le (((((Fq2_0.ext E3).ext E4).keep Kp5).ext E10).keep Kp11).lt gb13_0)) nin0))).keep Kp21 (ninS (Nat.ne_of_lt (Nat.lt_of_lt_of_le (((Fq2_0.ext E3).ext E4).keep Kp5).lt (Nat.le_of_eq g10.symm))) (ninS (Nat.ne_of_lt (Nat.lt_of_lt_of_le (((((Fq2_0.ext E3).ext E4).keep Kp5).ext E10).keep Kp11).lt gb13_0)) nin0))).keep Kp23 (ninS (Nat.ne_of_lt (Nat.lt_of_lt_of_le (((Fq2_0.ext E3).ext E4).keep Kp5).lt (Nat.le_of_eq g10.symm))) (ninS (Nat.ne_of_lt (Nat.lt_of_lt_of_le (((((Fq2_0.ext E3).ext E4).keep Kp5).ext E10).keep Kp11).lt gb13_0)) nin0))).keep Kp25 (ninS (Nat.ne_of_lt (Nat.lt_of_lt_of_le (((Fq2_0.ext E3).ext E4).keep Kp5).lt (Nat.le_of_eq g10.symm))) (ninS (Nat.ne_of_lt (Nat.lt_of_lt_of_le (((((Fq2_0.ext E3).ext E4).keep Kp5).ext E10).keep Kp11).lt gb13_0)) nin0)))
  have f29 : Exa Z T25.heap b1 "com/example/sortition/sortition/Slots" := (((((((((((Fq2_0.ext E3).ext E4).keep Kp5).ext E10).keep Kp11).keep Kp13).keep Kp17).keep Kp19).keep Kp21).keep Kp23).keep Kp25)
  obtain ⟨cq27, kq27, q27a, q27b, q27c⟩ := isOf hZ5 rfl f29
  obtain ⟨_, _, ⟨T27, L27, k27, n27⟩, -, X27, ⟨Lc27, hQ27, l27, y27, z27⟩, st27⟩ := X25.virtualBack hx (y := (⟨"com/example/sortition/sortition/Slots", "allows", "(Ljava/util/List;)Z"⟩ : MethodName)) (z := (⟨"com/example/sortition/sortition/Slots", "allows", "(Ljava/util/List;)Z"⟩ : MethodName)) hown5 (mvT hZ5 (ow hw 104 rfl)) (mvT hZ5 (ow hw 105 rfl)) (notFace_of_selects (args := #[]) (mvT hZ5 (ow hw 107 rfl))) (mvT hZ5 (ow hw 107 rfl)) (mvT hZ5 (ow hw 106 rfl)) (by decide) (backOf (W := 0) (rmAW_f l Z a0 hw [] b1 b10 (6 : Int32) kk T25.heap n0 (Nat.le_trans (Nat.le_trans (Nat.le_trans (Nat.le_trans (Nat.le_trans (Nat.le_trans (Nat.le_trans (Nat.le_trans (Nat.le_trans (Nat.le_trans (Nat.le_trans (Nat.le_trans (Nat.le_trans Z0 E1.1) Kp2.1) E3.1) E4.1) Kp5.1) E10.1) Kp11.1) Kp13.1) Kp17.1) Kp19.1) Kp21.1) Kp23.1) Kp25.1) Fq25_0 Fq25_3 f28 hrd) hZ5 (ow hw 108 rfl) (ow hw 2 rfl) (by decide) (by decide)) q27a q27c (g := (mkF m 164 #[.val (.int ja), .val (.int jb), .val (.int kk), .val (.int (6 : Int32)), .val (.ref b1), .val (.ref b3), .val (.ref b10), .val (.int (1 : Int32))] [(.ref b10), (.ref b1)])) rfl (by rw [hml]; rfl) (Steps.refl _) (argsL := [(.ref b10)]) (rest := []) (lenOf pd_10 rfl) rfl (by show 2 * 0 + _ ≤ _; exact Nat.le_of_eq rfl) (hb hby at_164) (fun _ _ => ⟨rfl, rfl, (by decide : 8 + 0 ≤ _), (by decide : 37 + 0 ≤ _)⟩)
  dsimp only [Pt.U, Pt.locs, Pt.cells, Pt.slots] at X27 l27 y27 z27 st27 hQ27
  subst l27 y27 z27
  obtain ⟨rfl, Nq27, e27⟩ := hQ27
  have N27 := Fr.app N25 Nq27
  obtain ⟨fs, hr, hrun, hended, hRW⟩ := X27.leaveW (s := s) hS5 (by rw [e27]; exact (Nat.le_trans (Nat.le_trans (Nat.le_trans (Nat.le_trans (Nat.le_trans (Nat.le_trans (Nat.le_trans (Nat.le_trans (Nat.le_refl _) E10.1) Kp11.1) Kp13.1) Kp17.1) Kp19.1) Kp21.1) Kp23.1) Kp25.1)) (v := some (.int (1 : Int32))) (fun h => by rw [Bd.returns] at h; cases h)
  refine ⟨_, _, pre0 _ ?_, hrun, hended, _, _, rfl, ?_, hRW.1, hRW.2.1, hRW.2.2.1, hRW.2.2.2.mono (by decide) (by decide)⟩
  · show Steps p.tables e below (s₁.setTop (mkF m 0 #[.val (.int ja), .val (.int jb), .unset, .unset, .unset, .unset, .unset, .unset] [])) _
    refine stp _ ?_
    show Steps p.tables e below (s₁.setTop (mkF m 20 #[.val (.int ja), .val (.int jb), .val (.int kk), .unset, .unset, .unset, .unset, .unset] [])) _
    refine XS.iloadN X0.here hx rfl (hb hby at_20) rfl ?_
    show Steps p.tables e below (s₁.setTop (mkF m 21 #[.val (.int ja), .val (.int jb), .val (.int kk), .unset, .unset, .unset, .unset, .unset] [(.int jb)])) _
    refine XS.bipush X0.here hx rfl (hb hby at_21) ?_
    show Steps p.tables e below (s₁.setTop (mkF m 23 #[.val (.int ja), .val (.int jb), .val (.int kk), .unset, .unset, .unset, .unset, .unset] [(.int (7 : Int32)), (.int jb)])) _
    refine XS.iand X0.here hx rfl (hb hby at_23) rfl ?_
    show Steps p.tables e below (s₁.setTop (mkF m 24 #[.val (.int ja), .val (.int jb), .val (.int kk), .unset, .unset, .unset, .unset, .unset] [(.int (jb &&& (7 : Int32)))])) _
    rw [hn]
    show Steps p.tables e below (s₁.setTop (mkF m 24 #[.val (.int ja), .val (.int jb), .val (.int kk), .unset, .unset, .unset, .unset, .unset] [(.int (6 : Int32))])) _
    refine XS.istoreN X0.here hx rfl (hb hby at_24) rfl (l' := #[.val (.int ja), .val (.int jb), .val (.int kk), .val (.int (6 : Int32)), .unset, .unset, .unset, .unset]) rfl ?_
    show Steps p.tables e below (s₁.setTop (mkF m 25 #[.val (.int ja), .val (.int jb), .val (.int kk), .val (.int (6 : Int32)), .unset, .unset, .unset, .unset] [])) _
    refine st1 _ ?_
    show Steps p.tables e below (T1.setTop (mkF m 28 #[.val (.int ja), .val (.int jb), .val (.int kk), .val (.int (6 : Int32)), .unset, .unset, .unset, .unset] [(.ref b1)])) _
    refine XS.dup X1.here hx rfl (hb hby at_28) rfl rfl ?_
    show Steps p.tables e below (T1.setTop (mkF m 29 #[.val (.int ja), .val (.int jb), .val (.int kk), .val (.int (6 : Int32)), .unset, .unset, .unset, .unset] [(.ref b1), (.ref b1)])) _
    refine XS.iloadN X1.here hx rfl (hb hby at_29) rfl ?_
    show Steps p.tables e below (T1.setTop (mkF m 30 #[.val (.int ja), .val (.int jb), .val (.int kk), .val (.int (6 : Int32)), .unset, .unset, .unset, .unset] [(.int kk), (.ref b1), (.ref b1)])) _
    refine st2.trans ?_
    show Steps p.tables e below (T2.setTop (mkF m 33 #[.val (.int ja), .val (.int jb), .val (.int kk), .val (.int (6 : Int32)), .unset, .unset, .unset, .unset] [(.ref b1)])) _
    refine XS.astore X2.here hx rfl (hb hby at_33) rfl rfl (l' := #[.val (.int ja), .val (.int jb), .val (.int kk), .val (.int (6 : Int32)), .val (.ref b1), .unset, .unset, .unset]) rfl ?_
    show Steps p.tables e below (T2.setTop (mkF m 35 #[.val (.int ja), .val (.int jb), .val (.int kk), .val (.int (6 : Int32)), .val (.ref b1), .unset, .unset, .unset] [])) _
    refine st3 _ ?_
    show Steps p.tables e below (T3.setTop (mkF m 38 #[.val (.int ja), .val (.int jb), .val (.int kk), .val (.int (6 : Int32)), .val (.ref b1), .unset, .unset, .unset] [(.ref b3)])) _
    refine XS.dup X3.here hx rfl (hb hby at_38) rfl rfl ?_
    show Steps p.tables e below (T3.setTop (mkF m 39 #[.val (.int ja), .val (.int jb), .val (.int kk), .val (.int (6 : Int32)), .val (.ref b1), .unset, .unset, .unset] [(.ref b3), (.ref b3)])) _
    refine XS.iconst X3.here hx rfl (hb hby at_39) ?_
    show Steps p.tables e below (T3.setTop (mkF m 40 #[.val (.int ja), .val (.int jb), .val (.int kk), .val (.int (6 : Int32)), .val (.ref b1), .unset, .unset, .unset] [(.int (0 : Int32)), (.ref b3), (.ref b3)])) _
    refine st4 _ ?_
    show Steps p.tables e below (T4.setTop (mkF m 42 #[.val (.int ja), .val (.int jb), .val (.int kk), .val (.int (6 : Int32)), .val (.ref b1), .unset, .unset, .unset] [(.ref a4), (.int (0 : Int32)), (.ref b3), (.ref b3)])) _
    refine XS.dconst1 X4.here hx rfl (hb hby at_42) (v := 4607182418800017408) rfl ?_
    show Steps p.tables e below (T4.setTop (mkF m 43 #[.val (.int ja), .val (.int jb), .val (.int kk), .val (.int (6 : Int32)), .val (.ref b1), .unset, .unset, .unset] [(.double 4607182418800017408), (.ref a4), (.int (0 : Int32)), (.ref b3), (.ref b3)])) _
    refine st5.trans ?_
    show Steps p.tables e below (T5.setTop (mkF m 46 #[.val (.int ja), .val (.int jb), .val (.int kk), .val (.int (6 : Int32)), .val (.ref b1), .unset, .unset, .unset] [(.ref b3)])) _
    refine XS.astore X5.here hx rfl (hb hby at_46) rfl rfl (l' := #[.val (.int ja), .val (.int jb), .val (.int kk), .val (.int (6 : Int32)), .val (.ref b1), .val (.ref b3), .unset, .unset]) rfl ?_
    show Steps p.tables e below (T5.setTop (mkF m 48 #[.val (.int ja), .val (.int jb), .val (.int kk), .val (.int (6 : Int32)), .val (.ref b1), .val (.ref b3), .unset, .unset] [])) _
    refine st10 _ ?_
    show Steps p.tables e below (T10.setTop (mkF m 51 #[.val (.int ja), .val (.int jb), .val (.int kk), .val (.int (6 : Int32)), .val (.ref b1), .val (.ref b3), .unset, .unset] [(.ref b10)])) _
    refine XS.dup X10.here hx rfl (hb hby at_51) rfl rfl ?_
    show Steps p.tables e below (T10.setTop (mkF m 52 #[.val (.int ja), .val (.int jb), .val (.int kk), .val (.int (6 : Int32)), .val (.ref b1), .val (.ref b3), .unset, .unset] [(.ref b10), (.ref b10)])) _
    refine st11.trans ?_
    show Steps p.tables e below (T11.setTop (mkF m 55 #[.val (.int ja), .val (.int jb), .val (.int kk), .val (.int (6 : Int32)), .val (.ref b1), .val (.ref b3), .unset, .unset] [(.ref b10)])) _
    refine XS.astore X11.here hx rfl (hb hby at_55) rfl rfl (l' := #[.val (.int ja), .val (.int jb), .val (.int kk), .val (.int (6 : Int32)), .val (.ref b1), .val (.ref b3), .val (.ref b10), .unset]) rfl ?_
    show Steps p.tables e below (T11.setTop (mkF m 57 #[.val (.int ja), .val (.int jb), .val (.int kk), .val (.int (6 : Int32)), .val (.ref b1), .val (.ref b3), .val (.ref b10), .unset] [])) _
    refine XS.iloadN X11.here hx rfl (hb hby at_57) rfl ?_
    show Steps p.tables e below (T11.setTop (mkF m 58 #[.val (.int ja), .val (.int jb), .val (.int kk), .val (.int (6 : Int32)), .val (.ref b1), .val (.ref b3), .val (.ref b10), .unset] [(.int (6 : Int32))])) _
    refine XS.ifNo X11.here hx rfl (hb hby at_58) rfl ((if0 _ _).trans (tlt (by decide : (0 : Int32) < (6 : Int32))).2.2.2) ?_
    show Steps p.tables e below (T11.setTop (mkF m 61 #[.val (.int ja), .val (.int jb), .val (.int kk), .val (.int (6 : Int32)), .val (.ref b1), .val (.ref b3), .val (.ref b10), .unset] [])) _
    refine XS.aload X11.here hx rfl (hb hby at_61) rfl rfl ?_
    show Steps p.tables e below (T11.setTop (mkF m 63 #[.val (.int ja), .val (.int jb), .val (.int kk), .val (.int (6 : Int32)), .val (.ref b1), .val (.ref b3), .val (.ref b10), .unset] [(.ref b10)])) _
    refine XS.aload X11.here hx rfl (hb hby at_63) rfl rfl ?_
    show Steps p.tables e below (T11.setTop (mkF m 65 #[.val (.int ja), .val (.int jb), .val (.int kk), .val (.int (6 : Int32)), .val (.ref b1), .val (.ref b3), .val (.ref b10), .unset] [(.ref b3), (.ref b10)])) _
    refine st13.trans ?_
    show Steps p.tables e below (T13.setTop (mkF m 68 #[.val (.int ja), .val (.int jb), .val (.int kk), .val (.int (6 : Int32)), .val (.ref b1), .val (.ref b3), .val (.ref b10), .unset] [(.int (1 : Int32))])) _
    refine XS.pop X13.here hx rfl (hb hby at_68) rfl rfl ?_
    show Steps p.tables e below (T13.setTop (mkF m 69 #[.val (.int ja), .val (.int jb), .val (.int kk), .val (.int (6 : Int32)), .val (.ref b1), .val (.ref b3), .val (.ref b10), .unset] [])) _
    refine XS.iloadN X13.here hx rfl (hb hby at_69) rfl ?_
    show Steps p.tables e below (T13.setTop (mkF m 70 #[.val (.int ja), .val (.int jb), .val (.int kk), .val (.int (6 : Int32)), .val (.ref b1), .val (.ref b3), .val (.ref b10), .unset] [(.int (6 : Int32))])) _
    refine XS.iconst X13.here hx rfl (hb hby at_70) ?_
    show Steps p.tables e below (T13.setTop (mkF m 71 #[.val (.int ja), .val (.int jb), .val (.int kk), .val (.int (6 : Int32)), .val (.ref b1), .val (.ref b3), .val (.ref b10), .unset] [(.int (1 : Int32)), (.int (6 : Int32))])) _
    refine XS.icmpNo X13.here hx rfl (hb hby at_71) rfl (tlt (by decide : (1 : Int32) < (6 : Int32))).2.2.2 ?_
    show Steps p.tables e below (T13.setTop (mkF m 74 #[.val (.int ja), .val (.int jb), .val (.int kk), .val (.int (6 : Int32)), .val (.ref b1), .val (.ref b3), .val (.ref b10), .unset] [])) _
    refine XS.aload X13.here hx rfl (hb hby at_74) rfl rfl ?_
    show Steps p.tables e below (T13.setTop (mkF m 76 #[.val (.int ja), .val (.int jb), .val (.int kk), .val (.int (6 : Int32)), .val (.ref b1), .val (.ref b3), .val (.ref b10), .unset] [(.ref b10)])) _
    refine XS.aload X13.here hx rfl (hb hby at_76) rfl rfl ?_
    show Steps p.tables e below (T13.setTop (mkF m 78 #[.val (.int ja), .val (.int jb), .val (.int kk), .val (.int (6 : Int32)), .val (.ref b1), .val (.ref b3), .val (.ref b10), .unset] [(.ref b3), (.ref b10)])) _
    refine st17.trans ?_
    show Steps p.tables e below (T17.setTop (mkF m 81 #[.val (.int ja), .val (.int jb), .val (.int kk), .val (.int (6 : Int32)), .val (.ref b1), .val (.ref b3), .val (.ref b10), .unset] [(.int (1 : Int32))])) _
    refine XS.pop X17.here hx rfl (hb hby at_81) rfl rfl ?_
    show Steps p.tables e below (T17.setTop (mkF m 82 #[.val (.int ja), .val (.int jb), .val (.int kk), .val (.int (6 : Int32)), .val (.ref b1), .val (.ref b3), .val (.ref b10), .unset] [])) _
    refine XS.iloadN X17.here hx rfl (hb hby at_82) rfl ?_
    show Steps p.tables e below (T17.setTop (mkF m 83 #[.val (.int ja), .val (.int jb), .val (.int kk), .val (.int (6 : Int32)), .val (.ref b1), .val (.ref b3), .val (.ref b10), .unset] [(.int (6 : Int32))])) _
    refine XS.iconst X17.here hx rfl (hb hby at_83) ?_
    show Steps p.tables e below (T17.setTop (mkF m 84 #[.val (.int ja), .val (.int jb), .val (.int kk), .val (.int (6 : Int32)), .val (.ref b1), .val (.ref b3), .val (.ref b10), .unset] [(.int (2 : Int32)), (.int (6 : Int32))])) _
    refine XS.icmpNo X17.here hx rfl (hb hby at_84) rfl (tlt (by decide : (2 : Int32) < (6 : Int32))).2.2.2 ?_
    show Steps p.tables e below (T17.setTop (mkF m 87 #[.val (.int ja), .val (.int jb), .val (.int kk), .val (.int (6 : Int32)), .val (.ref b1), .val (.ref b3), .val (.ref b10), .unset] [])) _
    refine XS.aload X17.here hx rfl (hb hby at_87) rfl rfl ?_
    show Steps p.tables e below (T17.setTop (mkF m 89 #[.val (.int ja), .val (.int jb), .val (.int kk), .val (.int (6 : Int32)), .val (.ref b1), .val (.ref b3), .val (.ref b10), .unset] [(.ref b10)])) _
    refine XS.aload X17.here hx rfl (hb hby at_89) rfl rfl ?_
    show Steps p.tables e below (T17.setTop (mkF m 91 #[.val (.int ja), .val (.int jb), .val (.int kk), .val (.int (6 : Int32)), .val (.ref b1), .val (.ref b3), .val (.ref b10), .unset] [(.ref b3), (.ref b10)])) _
    refine st19.trans ?_
    show Steps p.tables e below (T19.setTop (mkF m 94 #[.val (.int ja), .val (.int jb), .val (.int kk), .val (.int (6 : Int32)), .val (.ref b1), .val (.ref b3), .val (.ref b10), .unset] [(.int (1 : Int32))])) _
    refine XS.pop X19.here hx rfl (hb hby at_94) rfl rfl ?_
    show Steps p.tables e below (T19.setTop (mkF m 95 #[.val (.int ja), .val (.int jb), .val (.int kk), .val (.int (6 : Int32)), .val (.ref b1), .val (.ref b3), .val (.ref b10), .unset] [])) _
    refine XS.iloadN X19.here hx rfl (hb hby at_95) rfl ?_
    show Steps p.tables e below (T19.setTop (mkF m 96 #[.val (.int ja), .val (.int jb), .val (.int kk), .val (.int (6 : Int32)), .val (.ref b1), .val (.ref b3), .val (.ref b10), .unset] [(.int (6 : Int32))])) _
    refine XS.iconst X19.here hx rfl (hb hby at_96) ?_
    show Steps p.tables e below (T19.setTop (mkF m 97 #[.val (.int ja), .val (.int jb), .val (.int kk), .val (.int (6 : Int32)), .val (.ref b1), .val (.ref b3), .val (.ref b10), .unset] [(.int (3 : Int32)), (.int (6 : Int32))])) _
    refine XS.icmpNo X19.here hx rfl (hb hby at_97) rfl (tlt (by decide : (3 : Int32) < (6 : Int32))).2.2.2 ?_
    show Steps p.tables e below (T19.setTop (mkF m 100 #[.val (.int ja), .val (.int jb), .val (.int kk), .val (.int (6 : Int32)), .val (.ref b1), .val (.ref b3), .val (.ref b10), .unset] [])) _
    refine XS.aload X19.here hx rfl (hb hby at_100) rfl rfl ?_
    show Steps p.tables e below (T19.setTop (mkF m 102 #[.val (.int ja), .val (.int jb), .val (.int kk), .val (.int (6 : Int32)), .val (.ref b1), .val (.ref b3), .val (.ref b10), .unset] [(.ref b10)])) _
    refine XS.aload X19.here hx rfl (hb hby at_102) rfl rfl ?_
    show Steps p.tables e below (T19.setTop (mkF m 104 #[.val (.int ja), .val (.int jb), .val (.int kk), .val (.int (6 : Int32)), .val (.ref b1), .val (.ref b3), .val (.ref b10), .unset] [(.ref b3), (.ref b10)])) _
    refine st21.trans ?_
    show Steps p.tables e below (T21.setTop (mkF m 107 #[.val (.int ja), .val (.int jb), .val (.int kk), .val (.int (6 : Int32)), .val (.ref b1), .val (.ref b3), .val (.ref b10), .unset] [(.int (1 : Int32))])) _
    refine XS.pop X21.here hx rfl (hb hby at_107) rfl rfl ?_
    show Steps p.tables e below (T21.setTop (mkF m 108 #[.val (.int ja), .val (.int jb), .val (.int kk), .val (.int (6 : Int32)), .val (.ref b1), .val (.ref b3), .val (.ref b10), .unset] [])) _
    refine XS.iloadN X21.here hx rfl (hb hby at_108) rfl ?_
    show Steps p.tables e below (T21.setTop (mkF m 109 #[.val (.int ja), .val (.int jb), .val (.int kk), .val (.int (6 : Int32)), .val (.ref b1), .val (.ref b3), .val (.ref b10), .unset] [(.int (6 : Int32))])) _
    refine XS.iconst X21.here hx rfl (hb hby at_109) ?_
    show Steps p.tables e below (T21.setTop (mkF m 110 #[.val (.int ja), .val (.int jb), .val (.int kk), .val (.int (6 : Int32)), .val (.ref b1), .val (.ref b3), .val (.ref b10), .unset] [(.int (4 : Int32)), (.int (6 : Int32))])) _
    refine XS.icmpNo X21.here hx rfl (hb hby at_110) rfl (tlt (by decide : (4 : Int32) < (6 : Int32))).2.2.2 ?_
    show Steps p.tables e below (T21.setTop (mkF m 113 #[.val (.int ja), .val (.int jb), .val (.int kk), .val (.int (6 : Int32)), .val (.ref b1), .val (.ref b3), .val (.ref b10), .unset] [])) _
    refine XS.aload X21.here hx rfl (hb hby at_113) rfl rfl ?_
    show Steps p.tables e below (T21.setTop (mkF m 115 #[.val (.int ja), .val (.int jb), .val (.int kk), .val (.int (6 : Int32)), .val (.ref b1), .val (.ref b3), .val (.ref b10), .unset] [(.ref b10)])) _
    refine XS.aload X21.here hx rfl (hb hby at_115) rfl rfl ?_
    show Steps p.tables e below (T21.setTop (mkF m 117 #[.val (.int ja), .val (.int jb), .val (.int kk), .val (.int (6 : Int32)), .val (.ref b1), .val (.ref b3), .val (.ref b10), .unset] [(.ref b3), (.ref b10)])) _
    refine st23.trans ?_
    show Steps p.tables e below (T23.setTop (mkF m 120 #[.val (.int ja), .val (.int jb), .val (.int kk), .val (.int (6 : Int32)), .val (.ref b1), .val (.ref b3), .val (.ref b10), .unset] [(.int (1 : Int32))])) _
    refine XS.pop X23.here hx rfl (hb hby at_120) rfl rfl ?_
    show Steps p.tables e below (T23.setTop (mkF m 121 #[.val (.int ja), .val (.int jb), .val (.int kk), .val (.int (6 : Int32)), .val (.ref b1), .val (.ref b3), .val (.ref b10), .unset] [])) _
    refine XS.iloadN X23.here hx rfl (hb hby at_121) rfl ?_
    show Steps p.tables e below (T23.setTop (mkF m 122 #[.val (.int ja), .val (.int jb), .val (.int kk), .val (.int (6 : Int32)), .val (.ref b1), .val (.ref b3), .val (.ref b10), .unset] [(.int (6 : Int32))])) _
    refine XS.iconst X23.here hx rfl (hb hby at_122) ?_
    show Steps p.tables e below (T23.setTop (mkF m 123 #[.val (.int ja), .val (.int jb), .val (.int kk), .val (.int (6 : Int32)), .val (.ref b1), .val (.ref b3), .val (.ref b10), .unset] [(.int (5 : Int32)), (.int (6 : Int32))])) _
    refine XS.icmpNo X23.here hx rfl (hb hby at_123) rfl (tlt (by decide : (5 : Int32) < (6 : Int32))).2.2.2 ?_
    show Steps p.tables e below (T23.setTop (mkF m 126 #[.val (.int ja), .val (.int jb), .val (.int kk), .val (.int (6 : Int32)), .val (.ref b1), .val (.ref b3), .val (.ref b10), .unset] [])) _
    refine XS.aload X23.here hx rfl (hb hby at_126) rfl rfl ?_
    show Steps p.tables e below (T23.setTop (mkF m 128 #[.val (.int ja), .val (.int jb), .val (.int kk), .val (.int (6 : Int32)), .val (.ref b1), .val (.ref b3), .val (.ref b10), .unset] [(.ref b10)])) _
    refine XS.aload X23.here hx rfl (hb hby at_128) rfl rfl ?_
    show Steps p.tables e below (T23.setTop (mkF m 130 #[.val (.int ja), .val (.int jb), .val (.int kk), .val (.int (6 : Int32)), .val (.ref b1), .val (.ref b3), .val (.ref b10), .unset] [(.ref b3), (.ref b10)])) _
    refine st25.trans ?_
    show Steps p.tables e below (T25.setTop (mkF m 133 #[.val (.int ja), .val (.int jb), .val (.int kk), .val (.int (6 : Int32)), .val (.ref b1), .val (.ref b3), .val (.ref b10), .unset] [(.int (1 : Int32))])) _
    refine XS.pop X25.here hx rfl (hb hby at_133) rfl rfl ?_
    show Steps p.tables e below (T25.setTop (mkF m 134 #[.val (.int ja), .val (.int jb), .val (.int kk), .val (.int (6 : Int32)), .val (.ref b1), .val (.ref b3), .val (.ref b10), .unset] [])) _
    refine XS.iloadN X25.here hx rfl (hb hby at_134) rfl ?_
    show Steps p.tables e below (T25.setTop (mkF m 135 #[.val (.int ja), .val (.int jb), .val (.int kk), .val (.int (6 : Int32)), .val (.ref b1), .val (.ref b3), .val (.ref b10), .unset] [(.int (6 : Int32))])) _
    refine XS.bipush X25.here hx rfl (hb hby at_135) ?_
    show Steps p.tables e below (T25.setTop (mkF m 137 #[.val (.int ja), .val (.int jb), .val (.int kk), .val (.int (6 : Int32)), .val (.ref b1), .val (.ref b3), .val (.ref b10), .unset] [(.int (6 : Int32)), (.int (6 : Int32))])) _
    refine XS.icmpYes X25.here hx rfl (pc0 := 137) (pc' := 148) rfl (hb hby at_137) rfl (flt (by decide : ¬ ((6 : Int32) < (6 : Int32)))).2.2.2 (by decide) (by decide) ?_
    show Steps p.tables e below (T25.setTop (mkF m 148 #[.val (.int ja), .val (.int jb), .val (.int kk), .val (.int (6 : Int32)), .val (.ref b1), .val (.ref b3), .val (.ref b10), .unset] [])) _
    refine XS.iloadN X25.here hx rfl (hb hby at_148) rfl ?_
    show Steps p.tables e below (T25.setTop (mkF m 149 #[.val (.int ja), .val (.int jb), .val (.int kk), .val (.int (6 : Int32)), .val (.ref b1), .val (.ref b3), .val (.ref b10), .unset] [(.int (6 : Int32))])) _
    refine XS.iloadN X25.here hx rfl (hb hby at_149) rfl ?_
    show Steps p.tables e below (T25.setTop (mkF m 150 #[.val (.int ja), .val (.int jb), .val (.int kk), .val (.int (6 : Int32)), .val (.ref b1), .val (.ref b3), .val (.ref b10), .unset] [(.int kk), (.int (6 : Int32))])) _
    refine XS.icmpNo X25.here hx rfl (hb hby at_150) rfl (flt hrd).2.2.1 ?_
    show Steps p.tables e below (T25.setTop (mkF m 153 #[.val (.int ja), .val (.int jb), .val (.int kk), .val (.int (6 : Int32)), .val (.ref b1), .val (.ref b3), .val (.ref b10), .unset] [])) _
    refine XS.iconst X25.here hx rfl (hb hby at_153) ?_
    show Steps p.tables e below (T25.setTop (mkF m 154 #[.val (.int ja), .val (.int jb), .val (.int kk), .val (.int (6 : Int32)), .val (.ref b1), .val (.ref b3), .val (.ref b10), .unset] [(.int (1 : Int32))])) _
    refine XS.goto X25.here hx rfl (pc0 := 154) (pc' := 158) rfl (hb hby at_154) (by decide) (by decide) ?_
    show Steps p.tables e below (T25.setTop (mkF m 158 #[.val (.int ja), .val (.int jb), .val (.int kk), .val (.int (6 : Int32)), .val (.ref b1), .val (.ref b3), .val (.ref b10), .unset] [(.int (1 : Int32))])) _
    refine XS.istore X25.here hx rfl (hb hby at_158) rfl (l' := #[.val (.int ja), .val (.int jb), .val (.int kk), .val (.int (6 : Int32)), .val (.ref b1), .val (.ref b3), .val (.ref b10), .val (.int (1 : Int32))]) rfl ?_
    show Steps p.tables e below (T25.setTop (mkF m 160 #[.val (.int ja), .val (.int jb), .val (.int kk), .val (.int (6 : Int32)), .val (.ref b1), .val (.ref b3), .val (.ref b10), .val (.int (1 : Int32))] [])) _
    refine XS.aload X25.here hx rfl (hb hby at_160) rfl rfl ?_
    show Steps p.tables e below (T25.setTop (mkF m 162 #[.val (.int ja), .val (.int jb), .val (.int kk), .val (.int (6 : Int32)), .val (.ref b1), .val (.ref b3), .val (.ref b10), .val (.int (1 : Int32))] [(.ref b1)])) _
    refine XS.aload X25.here hx rfl (hb hby at_162) rfl rfl ?_
    show Steps p.tables e below (T25.setTop (mkF m 164 #[.val (.int ja), .val (.int jb), .val (.int kk), .val (.int (6 : Int32)), .val (.ref b1), .val (.ref b3), .val (.ref b10), .val (.int (1 : Int32))] [(.ref b10), (.ref b1)])) _
    refine st27.trans ?_
    show Steps p.tables e below (T27.setTop (mkF m 167 #[.val (.int ja), .val (.int jb), .val (.int kk), .val (.int (6 : Int32)), .val (.ref b1), .val (.ref b3), .val (.ref b10), .val (.int (1 : Int32))] [(.int (1 : Int32))])) _
    refine XS.iload X27.here hx rfl (hb hby at_167) rfl ?_
    show Steps p.tables e below (T27.setTop (mkF m 169 #[.val (.int ja), .val (.int jb), .val (.int kk), .val (.int (6 : Int32)), .val (.ref b1), .val (.ref b3), .val (.ref b10), .val (.int (1 : Int32))] [(.int (1 : Int32)), (.int (1 : Int32))])) _
    refine XS.icmpNo X27.here hx rfl (hb hby at_169) rfl (teq (rfl : (1 : Int32) = (1 : Int32))).2 ?_
    show Steps p.tables e below (T27.setTop (mkF m 172 #[.val (.int ja), .val (.int jb), .val (.int kk), .val (.int (6 : Int32)), .val (.ref b1), .val (.ref b3), .val (.ref b10), .val (.int (1 : Int32))] [])) _
    refine XS.iconst X27.here hx rfl (hb hby at_172) ?_
    show Steps p.tables e below (T27.setTop (mkF m 173 #[.val (.int ja), .val (.int jb), .val (.int kk), .val (.int (6 : Int32)), .val (.ref b1), .val (.ref b3), .val (.ref b10), .val (.int (1 : Int32))] [(.int (1 : Int32))])) _
    refine XS.goto X27.here hx rfl (pc0 := 173) (pc' := 177) rfl (hb hby at_173) (by decide) (by decide) ?_
    show Steps p.tables e below (T27.setTop (mkF m 177 #[.val (.int ja), .val (.int jb), .val (.int kk), .val (.int (6 : Int32)), .val (.ref b1), .val (.ref b3), .val (.ref b10), .val (.int (1 : Int32))] [(.int (1 : Int32))])) _
    exact retN X27 hx (t := .boolean) Bd.returns (by simp) (hb hby at_177) hr
  · show Q_rm0_6f Z ja jb kk de kd h0 n0 _ T27.heap _
    rw [e27]
    exact ⟨rfl, N27⟩
def Q_rm0_7t (Z : State) (ja : Int32) (jb : Int32) (kk : Int32) (de : Addr) (kd : ClassId) (h0 : Heap) (n0 : Nat) (v : Option Value) (h : Heap) (L : List Loc) : Prop := v = some (.int (1 : Int32)) ∧ Fr n0 L
theorem ef_rm0_7t (m : MethodId) (ja : Int32) (jb : Int32) : entryFrame m #[(.int ja), (.int jb)] maxLocals = mkF m 0 #[.val (.int ja), .val (.int jb), .unset, .unset, .unset, .unset, .unset, .unset] [] := by first | (simp [entryFrame, mkF, argsToLocals, Value.category, maxLocals]; done) | rfl
set_option maxRecDepth 65536 in
set_option maxHeartbeats 40000000 in
theorem rm0_7t (l : Launch) (Z : State) (a0 : Array Value) (hw : ∀ d ∈ tables_1, d.before a0 Z = true) (ws : List Jvm.Cond) (ja : Int32) (jb : Int32) (kk : Int32) (de : Addr) (kd : ClassId) (h0 : Heap) (n0 : Nat) (Z0 : n0 ≤ h0.size) (hwS : ∀ a ∈ Bundle.stringAtoms, a.before a0 Z = true) (hn0 : n0 = h0.size) (hcn : Jvm.Lit.constHeld Z "com/example/sortition/sortition/SlotsAllowsPinLaw" 15) (hcw : Jvm.Lit.compactW.before a0 Z = true) (S_DE : Sta Z h0 "java/util/ArrayList" "DEFAULTCAPACITY_EMPTY_ELEMENTDATA" "[Ljava/lang/Object;" (.ref de)) (V_de : Arv Z h0 de kd (.object "java/lang/Object") (0 : Int32) [] .null) (hkk : (own_k ja jb) = kk) (gkk : ¬ (kk < (0 : Int32))) (hn : (jb &&& (7 : Int32)) = (7 : Int32)) (hrd : kk < (7 : Int32)) :
    MetFree l x (head1 (Jvm.Cond.code x code maxLocals ret :: ws) room_1) (fun a U => a = #[(.int ja), (.int jb)] ∧ Z.Warmed39 U.vm ∧ U.heap = h0 ∧ U.vm.interned = Z.vm.interned ∧ (∀ (b : Addr) (cl : Cell), Z.heap[b]? = some cl → U.heap[b]? = some cl)) (fun _ _ _ _ _ => True) (fun _ U o U' => ∃ v L, o = .returned v ∧ Q_rm0_7t Z ja jb kk de kd h0 n0 v U'.heap L ∧ ReturnedEndW U o U' L room_1.cells room_1.slots) := by
  refine MetFree.of_bodySF (plainFor_of_name pn_8) hisR ?_
  intro p e s m args below meth c s₁ Bd hml0 hP hK
  obtain ⟨rfl, hZ, hh, hI0, hK0⟩ := hP
  have hx := Bd.exec
  have hby := Bd.bytes
  have hml : c.maxLocals = 8 := hml0
  have hown : s.vm.findClass "com/example/sortition/sortition/SlotsAllowsPinLaw" = some m.cls := findClass_of_methodNamed Bd.named
  have hnm := (name_of_methodNamed Bd.named Bd.method).1
  have X0 : Stand p l e room_1 s m #[(.int ja), (.int jb)] below meth c s₁ [] 0 0 := Stand.of_body Bd
  have e0 : s₁.heap = h0 := by rw [← hh, Bd.state]; rfl
  have N0 := Fr.nil n0
  have hS0 := (State.WarmedH.refl s).since 0
  have pre0 : ∀ t, Steps p.tables e below (s₁.setTop (mkF m 0 #[.val (.int ja), .val (.int jb), .unset, .unset, .unset, .unset, .unset, .unset] [])) t → Steps p.tables e below (s₁.setTop (entryFrame m #[(.int ja), (.int jb)] maxLocals)) t := fun t k => castTop (ef_rm0_7t m ja jb) k
  have stp := own_pre ja jb X0 hx hZ hw hby hown
  rw [hkk] at stp
  obtain ⟨T1, h1, X1, e1, E1, A1, D1, -, st1⟩ := newO X0 hx hZ hown (ow hw 0 rfl) (ow hw 1 rfl) (ow hw 2 rfl) e0 (g := (mkF m 25 #[.val (.int ja), .val (.int jb), .val (.int kk), .val (.int (7 : Int32)), .unset, .unset, .unset, .unset] [])) rfl (hb hby at_25) (by decide) (by decide)
  obtain ⟨b1, g1⟩ : ∃ z, z = h0.size := ⟨_, rfl⟩
  rw [← g1] at A1 D1 st1
  have F1_3 : Fld Z h1 b1 "com/example/sortition/sortition/Slots" "size" "I" (.int (0 : Int32)) := D1 (Or.inr (ow hw 15 rfl)) (ty := .int) (by decide)
  obtain ⟨_, _, ⟨T2, L2, k2, n2⟩, -, X2, ⟨Lc2, hQ2, l2, y2, z2⟩, st2⟩ := X1.specialBack hx (y := (⟨"com/example/sortition/sortition/Slots", "<init>", "(I)V"⟩ : MethodName)) rfl hown (mvT hZ (ow hw 3 rfl)) (mvT hZ (ow hw 4 rfl)) (mvT hZ (ow hw 5 rfl)) (by decide) (backOf (W := 1) (rmSl l Z a0 hw [] b1 kk (.int (0 : Int32)) h1 n0 (Nat.le_trans Z0 E1.1) gkk F1_3 A1 (Nat.le_trans Z0 (Nat.le_of_eq g1.symm))) hZ (ow hw 5 rfl) (ow hw 2 rfl) (by decide) (by decide)) (g := (mkF m 30 #[.val (.int ja), .val (.int jb), .val (.int kk), .val (.int (7 : Int32)), .unset, .unset, .unset, .unset] [(.int kk), (.ref b1), (.ref b1)])) rfl (by rw [hml]; rfl) (Steps.refl _) (a := b1) (argsL := [(.int kk)]) (rest := [(.ref b1)]) (lenOf pd_8 rfl) rfl (by show 2 * 0 + _ ≤ _; exact Nat.le_of_eq rfl) (hb hby at_30) (fun _ _ => ⟨rfl, e1, (by decide : 1 + 0 ≤ _), (by decide : 1 + 0 ≤ _)⟩)
  dsimp only [Pt.U, Pt.locs, Pt.cells, Pt.slots] at X2 l2 y2 z2 st2 hQ2
  subst l2 y2 z2
  obtain ⟨rfl, Nq2, Kp2, Fq2_0, Fq2_1⟩ := hQ2
  have N2 := Fr.app N0 Nq2
  obtain ⟨T3, h3, X3, e3, E3, A3, D3, -, st3⟩ := newO X2 hx hZ hown (ow hw 16 rfl) (ow hw 17 rfl) (ow hw 18 rfl) rfl (g := (mkF m 35 #[.val (.int ja), .val (.int jb), .val (.int kk), .val (.int (7 : Int32)), .val (.ref b1), .unset, .unset, .unset] [])) rfl (hb hby at_35) (by decide) (by decide)
  obtain ⟨b3, g3⟩ : ∃ z, z = T2.heap.size := ⟨_, rfl⟩
  rw [← g3] at A3 D3 st3
  have F3_5 : Fld Z h3 b3 "com/example/sortition/sortition/Element" "index" "I" (.int (0 : Int32)) := D3 (Or.inr (ow hw 44 rfl)) (ty := .int) (by decide)
  have F3_6 : Fld Z h3 b3 "com/example/sortition/sortition/Element" "id" "Ljava/lang/String;" .null := D3 (Or.inr (ow hw 46 rfl)) (ty := (.object "java/lang/String")) (by decide)
  have F3_7 : Fld Z h3 b3 "com/example/sortition/sortition/Element" "value" "D" (.double 0) := D3 (Or.inr (ow hw 48 rfl)) (ty := .double) (by decide)
  obtain ⟨a4, T4, h4, k4, b4, kc4, X4, e4, E4, hS4, hk4, hZ4, hown4, A4, -, Fv4, V4, -, -, -, st4⟩ := ldcSV (s := s) (vm0 := s.vm) X3 hx hZ hown (ow hw 19 rfl) hwS e3 hS0 (Nat.le_trans (Nat.le_trans (Nat.le_trans (Nat.zero_le _) E1.1) Kp2.1) E3.1) (by rw [hh, ← hn0]; exact N2) hK0 (⟨#[], by simpa using hI0, fun q hq => by simp at hq⟩ : IB Z s.vm []) (by simp) hcn hcw (vs := [(.int (120 : Int32))]) (z := (1 : Int32)) ⟨by decide, by decide⟩ (by decide) rfl (g := (mkF m 40 #[.val (.int ja), .val (.int jb), .val (.int kk), .val (.int (7 : Int32)), .val (.ref b1), .unset, .unset, .unset] [(.int (0 : Int32)), (.ref b3), (.ref b3)])) rfl (hb hby at_40) (n := 4) (by decide) (by decide) (by decide) (by decide)
  have f6 : Fld Z h4 b3 "com/example/sortition/sortition/Element" "index" "I" (.int (0 : Int32)) := (F3_5.ext E4)
  have f7 : Exa Z h4 b3 "com/example/sortition/sortition/Element" := (A3.ext E4)
  have f8 : Fld Z h4 b3 "com/example/sortition/sortition/Element" "id" "Ljava/lang/String;" .null := (F3_6.ext E4)
  have f9 : Fld Z h4 b3 "com/example/sortition/sortition/Element" "value" "D" (.double 0) := (F3_7.ext E4)
  obtain ⟨_, _, ⟨T5, L5, k5, n5⟩, -, X5, hSq5, hgq5, ⟨Lc5, hQ5, l5, y5, z5⟩, st5⟩ := X4.specialBackS hx (y := (⟨"com/example/sortition/sortition/Element", "<init>", "(ILjava/lang/String;D)V"⟩ : MethodName)) rfl hown4 (mvT hZ4 (ow hw 27 rfl)) (mvT hZ4 (ow hw 28 rfl)) (mvT hZ4 (ow hw 29 rfl)) (by decide) (backOfS (W := 1) (rmEI l Z a0 hw [] b3 (0 : Int32) a4 4607182418800017408 b4 kc4 [(.int (120 : Int32))] (.int (0 : Int32)) .null (.double 0) h4 n0 (Nat.le_trans (Nat.le_trans (Nat.le_trans (Nat.le_trans Z0 E1.1) Kp2.1) E3.1) E4.1) hwS A4 Fv4 V4 (by first | assumption | decide) (by decide +kernel) (by decide +kernel) own_nn1 f6 f7 (Nat.le_trans (Nat.le_trans (Nat.le_trans Z0 E1.1) Kp2.1) (Nat.le_of_eq g3.symm)) f8 f9) hZ4 (ow hw 29 rfl) (ow hw 18 rfl) (by decide) (by decide)) (g := (mkF m 43 #[.val (.int ja), .val (.int jb), .val (.int kk), .val (.int (7 : Int32)), .val (.ref b1), .unset, .unset, .unset] [(.double 4607182418800017408), (.ref a4), (.int (0 : Int32)), (.ref b3), (.ref b3)])) rfl (by rw [hml]; rfl) (Steps.refl _) (a := b3) (argsL := [(.int (0 : Int32)), (.ref a4), (.double 4607182418800017408)]) (rest := [(.ref b3)]) (lenOf pd_9 rfl) rfl (by show 2 * 0 + _ ≤ _; exact Nat.le_of_eq rfl) (hb hby at_43) (fun _ _ => ⟨rfl, e4, (by decide : 4 + 2 ≤ _), (by decide : 12 + 12 ≤ _)⟩)
  dsimp only [Pt.U, Pt.locs, Pt.cells, Pt.slots] at X5 l5 y5 z5 st5 hQ5 hSq5 hgq5
  subst l5 y5 z5
  obtain ⟨X5, hS5, hZ5, hown5⟩ := rebS (s := s) (vm0 := T4.vm) hS4 (by rw [e4]; exact hk4) X5 hSq5 hgq5 hZ4 hown4
  obtain ⟨rfl, Nq5, Kp5, Fq5_0, Fq5_1, Fq5_2⟩ := hQ5
  have N5 := Fr.app N2 Nq5
  obtain ⟨T10, h10, X10, e10, E10, A10, D10, -, st10⟩ := newO X5 hx hZ5 hown5 (ow hw 49 rfl) (ow hw 50 rfl) (ow hw 51 rfl) rfl (g := (mkF m 48 #[.val (.int ja), .val (.int jb), .val (.int kk), .val (.int (7 : Int32)), .val (.ref b1), .val (.ref b3), .unset, .unset] [])) rfl (hb hby at_48) (by decide) (by decide)
  obtain ⟨b10, g10⟩ : ∃ z, z = T5.heap.size := ⟨_, rfl⟩
  rw [← g10] at A10 D10 st10
  have F10_12 : Fld Z h10 b10 "java/util/AbstractList" "modCount" "I" (.int (0 : Int32)) := D10 (Or.inl (ow hw 69 rfl)) (ty := .int) (by decide)
  have F10_13 : Fld Z h10 b10 "java/util/ArrayList" "elementData" "[Ljava/lang/Object;" .null := D10 (Or.inl (ow hw 72 rfl)) (ty := (.array (.object "java/lang/Object"))) (by decide)
  have F10_14 : Fld Z h10 b10 "java/util/ArrayList" "size" "I" (.int (0 : Int32)) := D10 (Or.inl (ow hw 81 rfl)) (ty := .int) (by decide)
  have f12 : Sta Z h10 "java/util/ArrayList" "DEFAULTCAPACITY_EMPTY_ELEMENTDATA" "[Ljava/lang/Object;" (.ref de) := ((Sta_keep (((Sta_keep (S_DE.ext E1) Kp2 (nsS A1.nostat ns0)).ext E3).ext E4) Kp5 (nsS f7.nostat ns0)).ext E10)
  obtain ⟨_, _, ⟨T11, L11, k11, n11⟩, -, X11, ⟨Lc11, hQ11, l11, y11, z11⟩, st11⟩ := X10.specialBack hx (y := (⟨"java/util/ArrayList", "<init>", "()V"⟩ : MethodName)) rfl hown5 (mvT hZ5 (ow hw 52 rfl)) (mvT hZ5 (ow hw 53 rfl)) (mvT hZ5 (ow hw 54 rfl)) (by decide) (backOf (W := 1) (rmAL l Z a0 hw [] b10 de (.int (0 : Int32)) .null h10 n0 (Nat.le_trans (Nat.le_trans (Nat.le_trans (Nat.le_trans (Nat.le_trans (Nat.le_trans Z0 E1.1) Kp2.1) E3.1) E4.1) Kp5.1) E10.1) A10 F10_12 F10_13 f12 F10_14 (Nat.le_trans (Nat.le_trans (Nat.le_trans (Nat.le_trans (Nat.le_trans (Nat.le_trans Z0 E1.1) Kp2.1) E3.1) E4.1) Kp5.1) (Nat.le_of_eq g10.symm))) hZ5 (ow hw 54 rfl) (ow hw 51 rfl) (by decide) (by decide)) (g := (mkF m 52 #[.val (.int ja), .val (.int jb), .val (.int kk), .val (.int (7 : Int32)), .val (.ref b1), .val (.ref b3), .unset, .unset] [(.ref b10), (.ref b10)])) rfl (by rw [hml]; rfl) (Steps.refl _) (a := b10) (argsL := []) (rest := [(.ref b10)]) (lenOf pd_0 rfl) rfl (by show 2 * 0 + _ ≤ _; exact Nat.le_of_eq rfl) (hb hby at_52) (fun _ _ => ⟨rfl, e10, (by decide : 7 + 0 ≤ _), (by decide : 27 + 0 ≤ _)⟩)
  dsimp only [Pt.U, Pt.locs, Pt.cells, Pt.slots] at X11 l11 y11 z11 st11 hQ11
  subst l11 y11 z11
  obtain ⟨rfl, Nq11, Kp11, Fq11_0, Fq11_1, Fq11_2, Fq11_3⟩ := hQ11
  have N11 := Fr.app N5 Nq11
  have f14 : Arv Z T11.heap de kd (.object "java/lang/Object") (0 : Int32) [] .null := (((((((V_de.ext E1).keep Kp2 (ninS (Nat.ne_of_lt (Nat.lt_of_lt_of_le V_de.lt (Nat.le_of_eq g1.symm))) nin0)).ext E3).ext E4).keep Kp5 (ninS (Nat.ne_of_lt (Nat.lt_of_lt_of_le ((V_de.ext E1).keep Kp2 (ninS (Nat.ne_of_lt (Nat.lt_of_lt_of_le V_de.lt (Nat.le_of_eq g1.symm))) nin0)).lt (Nat.le_of_eq g3.symm))) nin0)).ext E10).keep Kp11 (ninS (Nat.ne_of_lt (Nat.lt_of_lt_of_le (((((V_de.ext E1).keep Kp2 (ninS (Nat.ne_of_lt (Nat.lt_of_lt_of_le V_de.lt (Nat.le_of_eq g1.symm))) nin0)).ext E3).ext E4).keep Kp5 (ninS (Nat.ne_of_lt (Nat.lt_of_lt_of_le ((V_de.ext E1).keep Kp2 (ninS (Nat.ne_of_lt (Nat.lt_of_lt_of_le V_de.lt (Nat.le_of_eq g1.symm))) nin0)).lt (Nat.le_of_eq g3.symm))) nin0)).lt (Nat.le_of_eq g10.symm))) nin0))
  have f15 : Sta Z T11.heap "java/util/ArrayList" "DEFAULTCAPACITY_EMPTY_ELEMENTDATA" "[Ljava/lang/Object;" (.ref de) := (Sta_keep f12 Kp11 (nsS A10.nostat ns0))
  have f16 : Exa Z T11.heap b3 "com/example/sortition/sortition/Element" := ((Fq5_0.ext E10).keep Kp11)
  obtain ⟨cq13, kq13, q13a, q13b, q13c⟩ := isOf hZ5 rfl Fq11_0
  obtain ⟨_, _, ⟨T13, L13, k13, n13⟩, -, X13, ⟨Lc13, hQ13, l13, y13, z13⟩, st13⟩ := X11.virtualBack hx (y := (⟨"java/util/ArrayList", "add", "(Ljava/lang/Object;)Z"⟩ : MethodName)) (z := (⟨"java/util/ArrayList", "add", "(Ljava/lang/Object;)Z"⟩ : MethodName)) hown5 (mvT hZ5 (ow hw 73 rfl)) (mvT hZ5 (ow hw 74 rfl)) (notFace_of_selects (args := #[]) (mvT hZ5 (ow hw 76 rfl))) (mvT hZ5 (ow hw 76 rfl)) (mvT hZ5 (ow hw 75 rfl)) (by decide) (backOf (W := 0) (rmA0 l Z a0 hw [] b10 b3 de kd (0 : Int32) T11.heap n0 (Nat.le_trans (Nat.le_trans (Nat.le_trans (Nat.le_trans (Nat.le_trans (Nat.le_trans (Nat.le_trans Z0 E1.1) Kp2.1) E3.1) E4.1) Kp5.1) E10.1) Kp11.1) Fq11_1 Fq11_0 Fq11_2 Fq11_3 f14 f15 f16 (Nat.le_trans (Nat.le_trans (Nat.le_trans (Nat.le_trans (Nat.le_trans (Nat.le_trans Z0 E1.1) Kp2.1) E3.1) E4.1) Kp5.1) (Nat.le_of_eq g10.symm)) (Nat.ne_of_lt (Nat.lt_of_lt_of_le (((((V_de.ext E1).keep Kp2 (ninS (Nat.ne_of_lt (Nat.lt_of_lt_of_le V_de.lt (Nat.le_of_eq g1.symm))) nin0)).ext E3).ext E4).keep Kp5 (ninS (Nat.ne_of_lt (Nat.lt_of_lt_of_le ((V_de.ext E1).keep Kp2 (ninS (Nat.ne_of_lt (Nat.lt_of_lt_of_le V_de.lt (Nat.le_of_eq g1.symm))) nin0)).lt (Nat.le_of_eq g3.symm))) nin0)).lt (Nat.le_of_eq g10.symm)))) hZ5 (ow hw 77 rfl) (ow hw 51 rfl) (by decide) (by decide)) q13a q13c (g := (mkF m 65 #[.val (.int ja), .val (.int jb), .val (.int kk), .val (.int (7 : Int32)), .val (.ref b1), .val (.ref b3), .val (.ref b10), .unset] [(.ref b3), (.ref b10)])) rfl (by rw [hml]; rfl) (Steps.refl _) (argsL := [(.ref b3)]) (rest := []) (lenOf pd_11 rfl) rfl (by show 2 * 0 + _ ≤ _; exact Nat.le_of_eq rfl) (hb hby at_65) (fun _ _ => ⟨rfl, rfl, (by decide : 7 + 1 ≤ _), (by decide : 27 + 10 ≤ _)⟩)
  dsimp only [Pt.U, Pt.locs, Pt.cells, Pt.slots] at X13 l13 y13 z13 st13 hQ13
  subst l13 y13 z13
  obtain ⟨nb_13, ka_13, rfl, Nq13, gb13_0, Kp13, Fq13_0, Fq13_1, Fq13_2, Fq13_3, Fq13_4, Pq13_0⟩ := hQ13
  have N13 := Fr.app N11 Nq13
  have f18 : Exa Z T13.heap b3 "com/example/sortition/sortition/Element" := (f16.keep Kp13)
  obtain ⟨cq17, kq17, q17a, q17b, q17c⟩ := isOf hZ5 rfl Fq13_0
  obtain ⟨_, _, ⟨T17, L17, k17, n17⟩, -, X17, ⟨Lc17, hQ17, l17, y17, z17⟩, st17⟩ := X13.virtualBack hx (y := (⟨"java/util/ArrayList", "add", "(Ljava/lang/Object;)Z"⟩ : MethodName)) (z := (⟨"java/util/ArrayList", "add", "(Ljava/lang/Object;)Z"⟩ : MethodName)) hown5 (mvT hZ5 (ow hw 73 rfl)) (mvT hZ5 (ow hw 74 rfl)) (notFace_of_selects (args := #[]) (mvT hZ5 (ow hw 76 rfl))) (mvT hZ5 (ow hw 76 rfl)) (mvT hZ5 (ow hw 75 rfl)) (by decide) (backOf (W := 0) (rmA1 l Z a0 hw [] b10 b3 nb_13 ka_13 ((0 : Int32) + (1 : Int32)) T13.heap n0 (Nat.le_trans (Nat.le_trans (Nat.le_trans (Nat.le_trans (Nat.le_trans (Nat.le_trans (Nat.le_trans (Nat.le_trans Z0 E1.1) Kp2.1) E3.1) E4.1) Kp5.1) E10.1) Kp11.1) Kp13.1) Fq13_1 Fq13_0 Fq13_2 Fq13_3 Fq13_4 Pq13_0 f18 (Nat.le_trans (Nat.le_trans (Nat.le_trans (Nat.le_trans (Nat.le_trans (Nat.le_trans Z0 E1.1) Kp2.1) E3.1) E4.1) Kp5.1) (Nat.le_of_eq g10.symm)) (Ne.symm (Nat.ne_of_lt (Nat.lt_of_lt_of_le Fq11_0.lt gb13_0))) (Nat.le_trans (Nat.le_trans (Nat.le_trans (Nat.le_trans (Nat.le_trans (Nat.le_trans (Nat.le_trans (Nat.le_trans Z0 E1.1) Kp2.1) E3.1) E4.1) Kp5.1) E10.1) Kp11.1) gb13_0)) hZ5 (ow hw 77 rfl) (ow hw 51 rfl) (by decide) (by decide)) q17a q17c (g := (mkF m 78 #[.val (.int ja), .val (.int jb), .val (.int kk), .val (.int (7 : Int32)), .val (.ref b1), .val (.ref b3), .val (.ref b10), .unset] [(.ref b3), (.ref b10)])) rfl (by rw [hml]; rfl) (Steps.refl _) (argsL := [(.ref b3)]) (rest := []) (lenOf pd_11 rfl) rfl (by show 2 * 0 + _ ≤ _; exact Nat.le_of_eq rfl) (hb hby at_78) (fun _ _ => ⟨rfl, rfl, (by decide : 8 + 0 ≤ _), (by decide : 37 + 0 ≤ _)⟩)
  dsimp only [Pt.U, Pt.locs, Pt.cells, Pt.slots] at X17 l17 y17 z17 st17 hQ17
  subst l17 y17 z17
  obtain ⟨rfl, Nq17, Kp17, Fq17_0, Fq17_1, Fq17_2, Fq17_3, Fq17_4⟩ := hQ17
  have N17 := Fr.app N13 Nq17
  have f20 : Exa Z T17.heap b3 "com/example/sortition/sortition/Element" := (f18.keep Kp17)
  obtain ⟨cq19, kq19, q19a, q19b, q19c⟩ := isOf hZ5 rfl Fq17_0
  obtain ⟨_, _, ⟨T19, L19, k19, n19⟩, -, X19, ⟨Lc19, hQ19, l19, y19, z19⟩, st19⟩ := X17.virtualBack hx (y := (⟨"java/util/ArrayList", "add", "(Ljava/lang/Object;)Z"⟩ : MethodName)) (z := (⟨"java/util/ArrayList", "add", "(Ljava/lang/Object;)Z"⟩ : MethodName)) hown5 (mvT hZ5 (ow hw 73 rfl)) (mvT hZ5 (ow hw 74 rfl)) (notFace_of_selects (args := #[]) (mvT hZ5 (ow hw 76 rfl))) (mvT hZ5 (ow hw 76 rfl)) (mvT hZ5 (ow hw 75 rfl)) (by decide) (backOf (W := 0) (rmA2 l Z a0 hw [] b10 b3 nb_13 ka_13 (((0 : Int32) + (1 : Int32)) + (1 : Int32)) T17.heap n0 (Nat.le_trans (Nat.le_trans (Nat.le_trans (Nat.le_trans (Nat.le_trans (Nat.le_trans (Nat.le_trans (Nat.le_trans (Nat.le_trans Z0 E1.1) Kp2.1) E3.1) E4.1) Kp5.1) E10.1) Kp11.1) Kp13.1) Kp17.1) Fq17_1 Fq17_0 Fq17_2 Fq17_3 Fq17_4 Pq13_0 f20 (Nat.le_trans (Nat.le_trans (Nat.le_trans (Nat.le_trans (Nat.le_trans (Nat.le_trans Z0 E1.1) Kp2.1) E3.1) E4.1) Kp5.1) (Nat.le_of_eq g10.symm)) (Ne.symm (Nat.ne_of_lt (Nat.lt_of_lt_of_le Fq11_0.lt gb13_0))) (Nat.le_trans (Nat.le_trans (Nat.le_trans (Nat.le_trans (Nat.le_trans (Nat.le_trans (Nat.le_trans (Nat.le_trans Z0 E1.1) Kp2.1) E3.1) E4.1) Kp5.1) E10.1) Kp11.1) gb13_0)) hZ5 (ow hw 77 rfl) (ow hw 51 rfl) (by decide) (by decide)) q19a q19c (g := (mkF m 91 #[.val (.int ja), .val (.int jb), .val (.int kk), .val (.int (7 : Int32)), .val (.ref b1), .val (.ref b3), .val (.ref b10), .unset] [(.ref b3), (.ref b10)])) rfl (by rw [hml]; rfl) (Steps.refl _) (argsL := [(.ref b3)]) (rest := []) (lenOf pd_11 rfl) rfl (by show 2 * 0 + _ ≤ _; exact Nat.le_of_eq rfl) (hb hby at_91) (fun _ _ => ⟨rfl, rfl, (by decide : 8 + 0 ≤ _), (by decide : 37 + 0 ≤ _)⟩)
  dsimp only [Pt.U, Pt.locs, Pt.cells, Pt.slots] at X19 l19 y19 z19 st19 hQ19
  subst l19 y19 z19
  obtain ⟨rfl, Nq19, Kp19, Fq19_0, Fq19_1, Fq19_2, Fq19_3, Fq19_4⟩ := hQ19
  have N19 := Fr.app N17 Nq19
  have f22 : Exa Z T19.heap b3 "com/example/sortition/sortition/Element" := (f20.keep Kp19)
  obtain ⟨cq21, kq21, q21a, q21b, q21c⟩ := isOf hZ5 rfl Fq19_0
  obtain ⟨_, _, ⟨T21, L21, k21, n21⟩, -, X21, ⟨Lc21, hQ21, l21, y21, z21⟩, st21⟩ := X19.virtualBack hx (y := (⟨"java/util/ArrayList", "add", "(Ljava/lang/Object;)Z"⟩ : MethodName)) (z := (⟨"java/util/ArrayList", "add", "(Ljava/lang/Object;)Z"⟩ : MethodName)) hown5 (mvT hZ5 (ow hw 73 rfl)) (mvT hZ5 (ow hw 74 rfl)) (notFace_of_selects (args := #[]) (mvT hZ5 (ow hw 76 rfl))) (mvT hZ5 (ow hw 76 rfl)) (mvT hZ5 (ow hw 75 rfl)) (by decide) (backOf (W := 0) (rmA3 l Z a0 hw [] b10 b3 nb_13 ka_13 ((((0 : Int32) + (1 : Int32)) + (1 : Int32)) + (1 : Int32)) T19.heap n0 (Nat.le_trans (Nat.le_trans (Nat.le_trans (Nat.le_trans (Nat.le_trans (Nat.le_trans (Nat.le_trans (Nat.le_trans (Nat.le_trans (Nat.le_trans Z0 E1.1) Kp2.1) E3.1) E4.1) Kp5.1) E10.1) Kp11.1) Kp13.1) Kp17.1) Kp19.1) Fq19_1 Fq19_0 Fq19_2 Fq19_3 Fq19_4 Pq13_0 f22 (Nat.le_trans (Nat.le_trans (Nat.le_trans (Nat.le_trans (Nat.le_trans (Nat.le_trans Z0 E1.1) Kp2.1) E3.1) E4.1) Kp5.1) (Nat.le_of_eq g10.symm)) (Ne.symm (Nat.ne_of_lt (Nat.lt_of_lt_of_le Fq11_0.lt gb13_0))) (Nat.le_trans (Nat.le_trans (Nat.le_trans (Nat.le_trans (Nat.le_trans (Nat.le_trans (Nat.le_trans (Nat.le_trans Z0 E1.1) Kp2.1) E3.1) E4.1) Kp5.1) E10.1) Kp11.1) gb13_0)) hZ5 (ow hw 77 rfl) (ow hw 51 rfl) (by decide) (by decide)) q21a q21c (g := (mkF m 104 #[.val (.int ja), .val (.int jb), .val (.int kk), .val (.int (7 : Int32)), .val (.ref b1), .val (.ref b3), .val (.ref b10), .unset] [(.ref b3), (.ref b10)])) rfl (by rw [hml]; rfl) (Steps.refl _) (argsL := [(.ref b3)]) (rest := []) (lenOf pd_11 rfl) rfl (by show 2 * 0 + _ ≤ _; exact Nat.le_of_eq rfl) (hb hby at_104) (fun _ _ => ⟨rfl, rfl, (by decide : 8 + 0 ≤ _), (by decide : 37 + 0 ≤ _)⟩)
  dsimp only [Pt.U, Pt.locs, Pt.cells, Pt.slots] at X21 l21 y21 z21 st21 hQ21
  subst l21 y21 z21
  obtain ⟨rfl, Nq21, Kp21, Fq21_0, Fq21_1, Fq21_2, Fq21_3, Fq21_4⟩ := hQ21
  have N21 := Fr.app N19 Nq21
  have f24 : Exa Z T21.heap b3 "com/example/sortition/sortition/Element" := (f22.keep Kp21)
  obtain ⟨cq23, kq23, q23a, q23b, q23c⟩ := isOf hZ5 rfl Fq21_0
  obtain ⟨_, _, ⟨T23, L23, k23, n23⟩, -, X23, ⟨Lc23, hQ23, l23, y23, z23⟩, st23⟩ := X21.virtualBack hx (y := (⟨"java/util/ArrayList", "add", "(Ljava/lang/Object;)Z"⟩ : MethodName)) (z := (⟨"java/util/ArrayList", "add", "(Ljava/lang/Object;)Z"⟩ : MethodName)) hown5 (mvT hZ5 (ow hw 73 rfl)) (mvT hZ5 (ow hw 74 rfl)) (notFace_of_selects (args := #[]) (mvT hZ5 (ow hw 76 rfl))) (mvT hZ5 (ow hw 76 rfl)) (mvT hZ5 (ow hw 75 rfl)) (by decide) (backOf (W := 0) (rmA4 l Z a0 hw [] b10 b3 nb_13 ka_13 (((((0 : Int32) + (1 : Int32)) + (1 : Int32)) + (1 : Int32)) + (1 : Int32)) T21.heap n0 (Nat.le_trans (Nat.le_trans (Nat.le_trans (Nat.le_trans (Nat.le_trans (Nat.le_trans (Nat.le_trans (Nat.le_trans (Nat.le_trans (Nat.le_trans (Nat.le_trans Z0 E1.1) Kp2.1) E3.1) E4.1) Kp5.1) E10.1) Kp11.1) Kp13.1) Kp17.1) Kp19.1) Kp21.1) Fq21_1 Fq21_0 Fq21_2 Fq21_3 Fq21_4 Pq13_0 f24 (Nat.le_trans (Nat.le_trans (Nat.le_trans (Nat.le_trans (Nat.le_trans (Nat.le_trans Z0 E1.1) Kp2.1) E3.1) E4.1) Kp5.1) (Nat.le_of_eq g10.symm)) (Ne.symm (Nat.ne_of_lt (Nat.lt_of_lt_of_le Fq11_0.lt gb13_0))) (Nat.le_trans (Nat.le_trans (Nat.le_trans (Nat.le_trans (Nat.le_trans (Nat.le_trans (Nat.le_trans (Nat.le_trans Z0 E1.1) Kp2.1) E3.1) E4.1) Kp5.1) E10.1) Kp11.1) gb13_0)) hZ5 (ow hw 77 rfl) (ow hw 51 rfl) (by decide) (by decide)) q23a q23c (g := (mkF m 117 #[.val (.int ja), .val (.int jb), .val (.int kk), .val (.int (7 : Int32)), .val (.ref b1), .val (.ref b3), .val (.ref b10), .unset] [(.ref b3), (.ref b10)])) rfl (by rw [hml]; rfl) (Steps.refl _) (argsL := [(.ref b3)]) (rest := []) (lenOf pd_11 rfl) rfl (by show 2 * 0 + _ ≤ _; exact Nat.le_of_eq rfl) (hb hby at_117) (fun _ _ => ⟨rfl, rfl, (by decide : 8 + 0 ≤ _), (by decide : 37 + 0 ≤ _)⟩)
  dsimp only [Pt.U, Pt.locs, Pt.cells, Pt.slots] at X23 l23 y23 z23 st23 hQ23
  subst l23 y23 z23
  obtain ⟨rfl, Nq23, Kp23, Fq23_0, Fq23_1, Fq23_2, Fq23_3, Fq23_4⟩ := hQ23
  have N23 := Fr.app N21 Nq23
  have f26 : Exa Z T23.heap b3 "com/example/sortition/sortition/Element" := (f24.keep Kp23)
  obtain ⟨cq25, kq25, q25a, q25b, q25c⟩ := isOf hZ5 rfl Fq23_0
  obtain ⟨_, _, ⟨T25, L25, k25, n25⟩, -, X25, ⟨Lc25, hQ25, l25, y25, z25⟩, st25⟩ := X23.virtualBack hx (y := (⟨"java/util/ArrayList", "add", "(Ljava/lang/Object;)Z"⟩ : MethodName)) (z := (⟨"java/util/ArrayList", "add", "(Ljava/lang/Object;)Z"⟩ : MethodName)) hown5 (mvT hZ5 (ow hw 73 rfl)) (mvT hZ5 (ow hw 74 rfl)) (notFace_of_selects (args := #[]) (mvT hZ5 (ow hw 76 rfl))) (mvT hZ5 (ow hw 76 rfl)) (mvT hZ5 (ow hw 75 rfl)) (by decide) (backOf (W := 0) (rmA5 l Z a0 hw [] b10 b3 nb_13 ka_13 ((((((0 : Int32) + (1 : Int32)) + (1 : Int32)) + (1 : Int32)) + (1 : Int32)) + (1 : Int32)) T23.heap n0 (Nat.le_trans (Nat.le_trans (Nat.le_trans (Nat.le_trans (Nat.le_trans (Nat.le_trans (Nat.le_trans (Nat.le_trans (Nat.le_trans (Nat.le_trans (Nat.le_trans (Nat.le_trans Z0 E1.1) Kp2.1) E3.1) E4.1) Kp5.1) E10.1) Kp11.1) Kp13.1) Kp17.1) Kp19.1) Kp21.1) Kp23.1) Fq23_1 Fq23_0 Fq23_2 Fq23_3 Fq23_4 Pq13_0 f26 (Nat.le_trans (Nat.le_trans (Nat.le_trans (Nat.le_trans (Nat.le_trans (Nat.le_trans Z0 E1.1) Kp2.1) E3.1) E4.1) Kp5.1) (Nat.le_of_eq g10.symm)) (Ne.symm (Nat.ne_of_lt (Nat.lt_of_lt_of_le Fq11_0.lt gb13_0))) (Nat.le_trans (Nat.le_trans (Nat.le_trans (Nat.le_trans (Nat.le_trans (Nat.le_trans (Nat.le_trans (Nat.le_trans Z0 E1.1) Kp2.1) E3.1) E4.1) Kp5.1) E10.1) Kp11.1) gb13_0)) hZ5 (ow hw 77 rfl) (ow hw 51 rfl) (by decide) (by decide)) q25a q25c (g := (mkF m 130 #[.val (.int ja), .val (.int jb), .val (.int kk), .val (.int (7 : Int32)), .val (.ref b1), .val (.ref b3), .val (.ref b10), .unset] [(.ref b3), (.ref b10)])) rfl (by rw [hml]; rfl) (Steps.refl _) (argsL := [(.ref b3)]) (rest := []) (lenOf pd_11 rfl) rfl (by show 2 * 0 + _ ≤ _; exact Nat.le_of_eq rfl) (hb hby at_130) (fun _ _ => ⟨rfl, rfl, (by decide : 8 + 0 ≤ _), (by decide : 37 + 0 ≤ _)⟩)
  dsimp only [Pt.U, Pt.locs, Pt.cells, Pt.slots] at X25 l25 y25 z25 st25 hQ25
  subst l25 y25 z25
  obtain ⟨rfl, Nq25, Kp25, Fq25_0, Fq25_1, Fq25_2, Fq25_3, Fq25_4⟩ := hQ25
  have N25 := Fr.app N23 Nq25
  have f28 : Exa Z T25.heap b3 "com/example/sortition/sortition/Element" := (f26.keep Kp25)
  obtain ⟨cq27, kq27, q27a, q27b, q27c⟩ := isOf hZ5 rfl Fq25_0
  obtain ⟨_, _, ⟨T27, L27, k27, n27⟩, -, X27, ⟨Lc27, hQ27, l27, y27, z27⟩, st27⟩ := X25.virtualBack hx (y := (⟨"java/util/ArrayList", "add", "(Ljava/lang/Object;)Z"⟩ : MethodName)) (z := (⟨"java/util/ArrayList", "add", "(Ljava/lang/Object;)Z"⟩ : MethodName)) hown5 (mvT hZ5 (ow hw 73 rfl)) (mvT hZ5 (ow hw 74 rfl)) (notFace_of_selects (args := #[]) (mvT hZ5 (ow hw 76 rfl))) (mvT hZ5 (ow hw 76 rfl)) (mvT hZ5 (ow hw 75 rfl)) (by decide) (backOf (W := 0) (rmA6 l Z a0 hw [] b10 b3 nb_13 ka_13 (((((((0 : Int32) + (1 : Int32)) + (1 : Int32)) + (1 : Int32)) + (1 : Int32)) + (1 : Int32)) + (1 : Int32)) T25.heap n0 (Nat.le_trans (Nat.le_trans (Nat.le_trans (Nat.le_trans (Nat.le_trans (Nat.le_trans (Nat.le_trans (Nat.le_trans (Nat.le_trans (Nat.le_trans (Nat.le_trans (Nat.le_trans (Nat.le_trans Z0 E1.1) Kp2.1) E3.1) E4.1) Kp5.1) E10.1) Kp11.1) Kp13.1) Kp17.1) Kp19.1) Kp21.1) Kp23.1) Kp25.1) Fq25_1 Fq25_0 Fq25_2 Fq25_3 Fq25_4 Pq13_0 f28 (Nat.le_trans (Nat.le_trans (Nat.le_trans (Nat.le_trans (Nat.le_trans (Nat.le_trans Z0 E1.1) Kp2.1) E3.1) E4.1) Kp5.1) (Nat.le_of_eq g10.symm)) (Ne.symm (Nat.ne_of_lt (Nat.lt_of_lt_of_le Fq11_0.lt gb13_0))) (Nat.le_trans (Nat.le_trans (Nat.le_trans (Nat.le_trans (Nat.le_trans (Nat.le_trans (Nat.le_trans (Nat.le_trans Z0 E1.1) Kp2.1) E3.1) E4.1) Kp5.1) E10.1) Kp11.1) gb13_0)) hZ5 (ow hw 77 rfl) (ow hw 51 rfl) (by decide) (by decide)) q27a q27c (g := (mkF m 144 #[.val (.int ja), .val (.int jb), .val (.int kk), .val (.int (7 : Int32)), .val (.ref b1), .val (.ref b3), .val (.ref b10), .unset] [(.ref b3), (.ref b10)])) rfl (by rw [hml]; rfl) (Steps.refl _) (argsL := [(.ref b3)]) (rest := []) (lenOf pd_11 rfl) rfl (by show 2 * 0 + _ ≤ _; exact Nat.le_of_eq rfl) (hb hby at_144) (fun _ _ => ⟨rfl, rfl, (by decide : 8 + 0 ≤ _), (by decide : 37 + 0 ≤ _)⟩)
  dsimp only [Pt.U, Pt.locs, Pt.cells, Pt.slots] at X27 l27 y27 z27 st27 hQ27
  subst l27 y27 z27
  obtain ⟨rfl, Nq27, Kp27, Fq27_0, Fq27_1, Fq27_2, Fq27_3, Fq27_4⟩ := hQ27
  have N27 := Fr.app N25 Nq27
  have f30 : Fld Z T27.heap b1 "com/example/sortition/sortition/Slots" "size" "I" (.int kk) := ((((((((((((Fq2_1.ext E3).ext E4).keep Kp5 (ninS (Nat.ne_of_lt (Nat.lt_of_lt_of_le Fq2_0.lt (Nat.le_of_eq g3.symm))) nin0)).ext E10).keep Kp11 (ninS (Nat.ne_of_lt (Nat.lt_of_lt_of_le (((Fq2_0.ext E3).ext E4).keep Kp5).lt (Nat.le_of_eq g10.symm))) nin0)).keep Kp13 (ninS (Nat.ne_of_lt (Nat.lt_of_lt_of_le (((Fq2_0.ext E3).ext E4).keep Kp5).lt (Nat.le_of_eq g10.symm))) nin0)).keep Kp17 (ninS (Nat.ne_of_lt (Nat.lt_of_lt_of_le (((Fq2_0.ext E3).ext E4).keep Kp5).lt (Nat.le_of_eq g10.symm))) (ninS (Nat.ne_of_lt (Nat.lt_of_lt_of_le (((((Fq2_0.ext E3).ext E4).keep Kp5).ext E10).keep Kp11).lt gb13_0)) nin0))).keep Kp19 (ninS (Nat.ne_of_lt (Nat.lt_of_lt_of_le (((Fq2_0.ext E3).ext E4).keep Kp5).lt (Nat.le_of_eq g10.symm))) (ninS (Nat.ne_of_lt (Nat.lt_of_lt_of_le (((((Fq2_0.ext E3).ext E4).keep Kp5).ext E10).keep Kp11).lt gb13_0)) nin0))).keep Kp21 (ninS (Nat.ne_of_lt (Nat.lt_of_lt_of_le (((Fq2_0.ext E3).ext E4).keep Kp5).lt (Nat.le_of_eq g10.symm))) (ninS (Nat.ne_of_lt (Nat.lt_of_lt_of_le (((((Fq2_0.ext E3).ext E4).keep Kp5).ext E10).keep Kp11).lt gb13_0)) nin0))).keep Kp23 (ninS (Nat.ne_of_lt (Nat.lt_of_lt_of_le (((Fq2_0.ext E3).ext E4).keep Kp5).lt (Nat.le_of_eq g10.symm))) (ninS (Nat.ne_of_lt (Nat.lt_of_lt_of_le (((((Fq2_0.ext E3).ext E4).keep Kp5).ext E10).keep Kp11).lt gb13_0)) nin0))).keep Kp25 (ninS (Nat.ne_of_lt (Nat.lt_of_lt_of_le (((Fq2_0.ext E3).ext E4).keep Kp5).lt (Nat.le_of_eq g10.symm))) (ninS (Nat.ne_of_lt (Nat.lt_of_lt_of_le (((((Fq2_0.ext E3).ext E4).keep Kp5).ext E10).keep Kp11).lt gb13_0)) nin0))).keep Kp27 (ninS (Nat.ne_of_lt (Nat.lt_of_lt_of_le (((Fq2_0.ext E3).ext E4).keep Kp5).lt (Nat.le_of_eq g10.symm))) (ninS (Nat.ne_of_lt (Nat.lt_of_lt_of_le (((((Fq2_0.ext E3).ext E4).keep Kp5).ext E10).keep Kp11).lt gb13_0)) nin0)))
  have f31 : Exa Z T27.heap b1 "com/example/sortition/sortition/Slots" := ((((((((((((Fq2_0.ext E3).ext E4).keep Kp5).ext E10).keep Kp11).keep Kp13).keep Kp17).keep Kp19).keep Kp21).keep Kp23).keep Kp25).keep Kp27)
  obtain ⟨cq29, kq29, q29a, q29b, q29c⟩ := isOf hZ5 rfl f31
  obtain ⟨_, _, ⟨T29, L29, k29, n29⟩, -, X29, ⟨Lc29, hQ29, l29, y29, z29⟩, st29⟩ := X27.virtualBack hx (y := (⟨"com/example/sortition/sortition/Slots", "allows", "(Ljava/util/List;)Z"⟩ : MethodName)) (z := (⟨"com/example/sortition/sortition/Slots", "allows", "(Ljava/util/List;)Z"⟩ : MethodName)) hown5 (mvT hZ5 (ow hw 104 rfl)) (mvT hZ5 (ow hw 105 rfl)) (notFace_of_selects (args := #[]) (mvT hZ5 (ow hw 107 rfl))) (mvT hZ5 (ow hw 107 rfl)) (mvT hZ5 (ow hw 106 rfl)) (by decide) (backOf (W := 0) (rmAW_t l Z a0 hw [] b1 b10 (7 : Int32) kk T27.heap n0 (Nat.le_trans (Nat.le_trans (Nat.le_trans (Nat.le_trans (Nat.le_trans (Nat.le_trans (Nat.le_trans (Nat.le_trans (Nat.le_trans (Nat.le_trans (Nat.le_trans (Nat.le_trans (Nat.le_trans (Nat.le_trans Z0 E1.1) Kp2.1) E3.1) E4.1) Kp5.1) E10.1) Kp11.1) Kp13.1) Kp17.1) Kp19.1) Kp21.1) Kp23.1) Kp25.1) Kp27.1) Fq27_0 Fq27_3 f30 hrd) hZ5 (ow hw 108 rfl) (ow hw 2 rfl) (by decide) (by decide)) q29a q29c (g := (mkF m 164 #[.val (.int ja), .val (.int jb), .val (.int kk), .val (.int (7 : Int32)), .val (.ref b1), .val (.ref b3), .val (.ref b10), .val (.int (0 : Int32))] [(.ref b10), (.ref b1)])) rfl (by rw [hml]; rfl) (Steps.refl _) (argsL := [(.ref b10)]) (rest := []) (lenOf pd_10 rfl) rfl (by show 2 * 0 + _ ≤ _; exact Nat.le_of_eq rfl) (hb hby at_164) (fun _ _ => ⟨rfl, rfl, (by decide : 8 + 0 ≤ _), (by decide : 37 + 0 ≤ _)⟩)
  dsimp only [Pt.U, Pt.locs, Pt.cells, Pt.slots] at X29 l29 y29 z29 st29 hQ29
  subst l29 y29 z29
  obtain ⟨rfl, Nq29, e29⟩ := hQ29
  have N29 := Fr.app N27 Nq29
  obtain ⟨fs, hr, hrun, hended, hRW⟩ := X29.leaveW (s := s) hS5 (by rw [e29]; exact (Nat.le_trans (Nat.le_trans (Nat.le_trans (Nat.le_trans (Nat.le_trans (Nat.le_trans (Nat.le_trans (Nat.le_trans (Nat.le_trans (Nat.le_refl _) E10.1) Kp11.1) Kp13.1) Kp17.1) Kp19.1) Kp21.1) Kp23.1) Kp25.1) Kp27.1)) (v := some (.int (1 : Int32))) (fun h => by rw [Bd.returns] at h; cases h)
  refine ⟨_, _, pre0 _ ?_, hrun, hended, _, _, rfl, ?_, hRW.1, hRW.2.1, hRW.2.2.1, hRW.2.2.2.mono (by decide) (by decide)⟩
  · show Steps p.tables e below (s₁.setTop (mkF m 0 #[.val (.int ja), .val (.int jb), .unset, .unset, .unset, .unset, .unset, .unset] [])) _
    refine stp _ ?_
    show Steps p.tables e below (s₁.setTop (mkF m 20 #[.val (.int ja), .val (.int jb), .val (.int kk), .unset, .unset, .unset, .unset, .unset] [])) _
    refine XS.iloadN X0.here hx rfl (hb hby at_20) rfl ?_
    show Steps p.tables e below (s₁.setTop (mkF m 21 #[.val (.int ja), .val (.int jb), .val (.int kk), .unset, .unset, .unset, .unset, .unset] [(.int jb)])) _
    refine XS.bipush X0.here hx rfl (hb hby at_21) ?_
    show Steps p.tables e below (s₁.setTop (mkF m 23 #[.val (.int ja), .val (.int jb), .val (.int kk), .unset, .unset, .unset, .unset, .unset] [(.int (7 : Int32)), (.int jb)])) _
    refine XS.iand X0.here hx rfl (hb hby at_23) rfl ?_
    show Steps p.tables e below (s₁.setTop (mkF m 24 #[.val (.int ja), .val (.int jb), .val (.int kk), .unset, .unset, .unset, .unset, .unset] [(.int (jb &&& (7 : Int32)))])) _
    rw [hn]
    show Steps p.tables e below (s₁.setTop (mkF m 24 #[.val (.int ja), .val (.int jb), .val (.int kk), .unset, .unset, .unset, .unset, .unset] [(.int (7 : Int32))])) _
    refine XS.istoreN X0.here hx rfl (hb hby at_24) rfl (l' := #[.val (.int ja), .val (.int jb), .val (.int kk), .val (.int (7 : Int32)), .unset, .unset, .unset, .unset]) rfl ?_
    show Steps p.tables e below (s₁.setTop (mkF m 25 #[.val (.int ja), .val (.int jb), .val (.int kk), .val (.int (7 : Int32)), .unset, .unset, .unset, .unset] [])) _
    refine st1 _ ?_
    show Steps p.tables e below (T1.setTop (mkF m 28 #[.val (.int ja), .val (.int jb), .val (.int kk), .val (.int (7 : Int32)), .unset, .unset, .unset, .unset] [(.ref b1)])) _
    refine XS.dup X1.here hx rfl (hb hby at_28) rfl rfl ?_
    show Steps p.tables e below (T1.setTop (mkF m 29 #[.val (.int ja), .val (.int jb), .val (.int kk), .val (.int (7 : Int32)), .unset, .unset, .unset, .unset] [(.ref b1), (.ref b1)])) _
    refine XS.iloadN X1.here hx rfl (hb hby at_29) rfl ?_
    show Steps p.tables e below (T1.setTop (mkF m 30 #[.val (.int ja), .val (.int jb), .val (.int kk), .val (.int (7 : Int32)), .unset, .unset, .unset, .unset] [(.int kk), (.ref b1), (.ref b1)])) _
    refine st2.trans ?_
    show Steps p.tables e below (T2.setTop (mkF m 33 #[.val (.int ja), .val (.int jb), .val (.int kk), .val (.int (7 : Int32)), .unset, .unset, .unset, .unset] [(.ref b1)])) _
    refine XS.astore X2.here hx rfl (hb hby at_33) rfl rfl (l' := #[.val (.int ja), .val (.int jb), .val (.int kk), .val (.int (7 : Int32)), .val (.ref b1), .unset, .unset, .unset]) rfl ?_
    show Steps p.tables e below (T2.setTop (mkF m 35 #[.val (.int ja), .val (.int jb), .val (.int kk), .val (.int (7 : Int32)), .val (.ref b1), .unset, .unset, .unset] [])) _
    refine st3 _ ?_
    show Steps p.tables e below (T3.setTop (mkF m 38 #[.val (.int ja), .val (.int jb), .val (.int kk), .val (.int (7 : Int32)), .val (.ref b1), .unset, .unset, .unset] [(.ref b3)])) _
    refine XS.dup X3.here hx rfl (hb hby at_38) rfl rfl ?_
    show Steps p.tables e below (T3.setTop (mkF m 39 #[.val (.int ja), .val (.int jb), .val (.int kk), .val (.int (7 : Int32)), .val (.ref b1), .unset, .unset, .unset] [(.ref b3), (.ref b3)])) _
    refine XS.iconst X3.here hx rfl (hb hby at_39) ?_
    show Steps p.tables e below (T3.setTop (mkF m 40 #[.val (.int ja), .val (.int jb), .val (.int kk), .val (.int (7 : Int32)), .val (.ref b1), .unset, .unset, .unset] [(.int (0 : Int32)), (.ref b3), (.ref b3)])) _
    refine st4 _ ?_
    show Steps p.tables e below (T4.setTop (mkF m 42 #[.val (.int ja), .val (.int jb), .val (.int kk), .val (.int (7 : Int32)), .val (.ref b1), .unset, .unset, .unset] [(.ref a4), (.int (0 : Int32)), (.ref b3), (.ref b3)])) _
    refine XS.dconst1 X4.here hx rfl (hb hby at_42) (v := 4607182418800017408) rfl ?_
    show Steps p.tables e below (T4.setTop (mkF m 43 #[.val (.int ja), .val (.int jb), .val (.int kk), .val (.int (7 : Int32)), .val (.ref b1), .unset, .unset, .unset] [(.double 4607182418800017408), (.ref a4), (.int (0 : Int32)), (.ref b3), (.ref b3)])) _
    refine st5.trans ?_
    show Steps p.tables e below (T5.setTop (mkF m 46 #[.val (.int ja), .val (.int jb), .val (.int kk), .val (.int (7 : Int32)), .val (.ref b1), .unset, .unset, .unset] [(.ref b3)])) _
    refine XS.astore X5.here hx rfl (hb hby at_46) rfl rfl (l' := #[.val (.int ja), .val (.int jb), .val (.int kk), .val (.int (7 : Int32)), .val (.ref b1), .val (.ref b3), .unset, .unset]) rfl ?_
    show Steps p.tables e below (T5.setTop (mkF m 48 #[.val (.int ja), .val (.int jb), .val (.int kk), .val (.int (7 : Int32)), .val (.ref b1), .val (.ref b3), .unset, .unset] [])) _
    refine st10 _ ?_
    show Steps p.tables e below (T10.setTop (mkF m 51 #[.val (.int ja), .val (.int jb), .val (.int kk), .val (.int (7 : Int32)), .val (.ref b1), .val (.ref b3), .unset, .unset] [(.ref b10)])) _
    refine XS.dup X10.here hx rfl (hb hby at_51) rfl rfl ?_
    show Steps p.tables e below (T10.setTop (mkF m 52 #[.val (.int ja), .val (.int jb), .val (.int kk), .val (.int (7 : Int32)), .val (.ref b1), .val (.ref b3), .unset, .unset] [(.ref b10), (.ref b10)])) _
    refine st11.trans ?_
    show Steps p.tables e below (T11.setTop (mkF m 55 #[.val (.int ja), .val (.int jb), .val (.int kk), .val (.int (7 : Int32)), .val (.ref b1), .val (.ref b3), .unset, .unset] [(.ref b10)])) _
    refine XS.astore X11.here hx rfl (hb hby at_55) rfl rfl (l' := #[.val (.int ja), .val (.int jb), .val (.int kk), .val (.int (7 : Int32)), .val (.ref b1), .val (.ref b3), .val (.ref b10), .unset]) rfl ?_
    show Steps p.tables e below (T11.setTop (mkF m 57 #[.val (.int ja), .val (.int jb), .val (.int kk), .val (.int (7 : Int32)), .val (.ref b1), .val (.ref b3), .val (.ref b10), .unset] [])) _
    refine XS.iloadN X11.here hx rfl (hb hby at_57) rfl ?_
    show Steps p.tables e below (T11.setTop (mkF m 58 #[.val (.int ja), .val (.int jb), .val (.int kk), .val (.int (7 : Int32)), .val (.ref b1), .val (.ref b3), .val (.ref b10), .unset] [(.int (7 : Int32))])) _
    refine XS.ifNo X11.here hx rfl (hb hby at_58) rfl ((if0 _ _).trans (tlt (by decide : (0 : Int32) < (7 : Int32))).2.2.2) ?_
    show Steps p.tables e below (T11.setTop (mkF m 61 #[.val (.int ja), .val (.int jb), .val (.int kk), .val (.int (7 : Int32)), .val (.ref b1), .val (.ref b3), .val (.ref b10), .unset] [])) _
    refine XS.aload X11.here hx rfl (hb hby at_61) rfl rfl ?_
    show Steps p.tables e below (T11.setTop (mkF m 63 #[.val (.int ja), .val (.int jb), .val (.int kk), .val (.int (7 : Int32)), .val (.ref b1), .val (.ref b3), .val (.ref b10), .unset] [(.ref b10)])) _
    refine XS.aload X11.here hx rfl (hb hby at_63) rfl rfl ?_
    show Steps p.tables e below (T11.setTop (mkF m 65 #[.val (.int ja), .val (.int jb), .val (.int kk), .val (.int (7 : Int32)), .val (.ref b1), .val (.ref b3), .val (.ref b10), .unset] [(.ref b3), (.ref b10)])) _
    refine st13.trans ?_
    show Steps p.tables e below (T13.setTop (mkF m 68 #[.val (.int ja), .val (.int jb), .val (.int kk), .val (.int (7 : Int32)), .val (.ref b1), .val (.ref b3), .val (.ref b10), .unset] [(.int (1 : Int32))])) _
    refine XS.pop X13.here hx rfl (hb hby at_68) rfl rfl ?_
    show Steps p.tables e below (T13.setTop (mkF m 69 #[.val (.int ja), .val (.int jb), .val (.int kk), .val (.int (7 : Int32)), .val (.ref b1), .val (.ref b3), .val (.ref b10), .unset] [])) _
    refine XS.iloadN X13.here hx rfl (hb hby at_69) rfl ?_
    show Steps p.tables e below (T13.setTop (mkF m 70 #[.val (.int ja), .val (.int jb), .val (.int kk), .val (.int (7 : Int32)), .val (.ref b1), .val (.ref b3), .val (.ref b10), .unset] [(.int (7 : Int32))])) _
    refine XS.iconst X13.here hx rfl (hb hby at_70) ?_
    show Steps p.tables e below (T13.setTop (mkF m 71 #[.val (.int ja), .val (.int jb), .val (.int kk), .val (.int (7 : Int32)), .val (.ref b1), .val (.ref b3), .val (.ref b10), .unset] [(.int (1 : Int32)), (.int (7 : Int32))])) _
    refine XS.icmpNo X13.here hx rfl (hb hby at_71) rfl (tlt (by decide : (1 : Int32) < (7 : Int32))).2.2.2 ?_
    show Steps p.tables e below (T13.setTop (mkF m 74 #[.val (.int ja), .val (.int jb), .val (.int kk), .val (.int (7 : Int32)), .val (.ref b1), .val (.ref b3), .val (.ref b10), .unset] [])) _
    refine XS.aload X13.here hx rfl (hb hby at_74) rfl rfl ?_
    show Steps p.tables e below (T13.setTop (mkF m 76 #[.val (.int ja), .val (.int jb), .val (.int kk), .val (.int (7 : Int32)), .val (.ref b1), .val (.ref b3), .val (.ref b10), .unset] [(.ref b10)])) _
    refine XS.aload X13.here hx rfl (hb hby at_76) rfl rfl ?_
    show Steps p.tables e below (T13.setTop (mkF m 78 #[.val (.int ja), .val (.int jb), .val (.int kk), .val (.int (7 : Int32)), .val (.ref b1), .val (.ref b3), .val (.ref b10), .unset] [(.ref b3), (.ref b10)])) _
    refine st17.trans ?_
    show Steps p.tables e below (T17.setTop (mkF m 81 #[.val (.int ja), .val (.int jb), .val (.int kk), .val (.int (7 : Int32)), .val (.ref b1), .val (.ref b3), .val (.ref b10), .unset] [(.int (1 : Int32))])) _
    refine XS.pop X17.here hx rfl (hb hby at_81) rfl rfl ?_
    show Steps p.tables e below (T17.setTop (mkF m 82 #[.val (.int ja), .val (.int jb), .val (.int kk), .val (.int (7 : Int32)), .val (.ref b1), .val (.ref b3), .val (.ref b10), .unset] [])) _
    refine XS.iloadN X17.here hx rfl (hb hby at_82) rfl ?_
    show Steps p.tables e below (T17.setTop (mkF m 83 #[.val (.int ja), .val (.int jb), .val (.int kk), .val (.int (7 : Int32)), .val (.ref b1), .val (.ref b3), .val (.ref b10), .unset] [(.int (7 : Int32))])) _
    refine XS.iconst X17.here hx rfl (hb hby at_83) ?_
    show Steps p.tables e below (T17.setTop (mkF m 84 #[.val (.int ja), .val (.int jb), .val (.int kk), .val (.int (7 : Int32)), .val (.ref b1), .val (.ref b3), .val (.ref b10), .unset] [(.int (2 : Int32)), (.int (7 : Int32))])) _
    refine XS.icmpNo X17.here hx rfl (hb hby at_84) rfl (tlt (by decide : (2 : Int32) < (7 : Int32))).2.2.2 ?_
    show Steps p.tables e below (T17.setTop (mkF m 87 #[.val (.int ja), .val (.int jb), .val (.int kk), .val (.int (7 : Int32)), .val (.ref b1), .val (.ref b3), .val (.ref b10), .unset] [])) _
    refine XS.aload X17.here hx rfl (hb hby at_87) rfl rfl ?_
    show Steps p.tables e below (T17.setTop (mkF m 89 #[.val (.int ja), .val (.int jb), .val (.int kk), .val (.int (7 : Int32)), .val (.ref b1), .val (.ref b3), .val (.ref b10), .unset] [(.ref b10)])) _
    refine XS.aload X17.here hx rfl (hb hby at_89) rfl rfl ?_
    show Steps p.tables e below (T17.setTop (mkF m 91 #[.val (.int ja), .val (.int jb), .val (.int kk), .val (.int (7 : Int32)), .val (.ref b1), .val (.ref b3), .val (.ref b10), .unset] [(.ref b3), (.ref b10)])) _
    refine st19.trans ?_
    show Steps p.tables e below (T19.setTop (mkF m 94 #[.val (.int ja), .val (.int jb), .val (.int kk), .val (.int (7 : Int32)), .val (.ref b1), .val (.ref b3), .val (.ref b10), .unset] [(.int (1 : Int32))])) _
    refine XS.pop X19.here hx rfl (hb hby at_94) rfl rfl ?_
    show Steps p.tables e below (T19.setTop (mkF m 95 #[.val (.int ja), .val (.int jb), .val (.int kk), .val (.int (7 : Int32)), .val (.ref b1), .val (.ref b3), .val (.ref b10), .unset] [])) _
    refine XS.iloadN X19.here hx rfl (hb hby at_95) rfl ?_
    show Steps p.tables e below (T19.setTop (mkF m 96 #[.val (.int ja), .val (.int jb), .val (.int kk), .val (.int (7 : Int32)), .val (.ref b1), .val (.ref b3), .val (.ref b10), .unset] [(.int (7 : Int32))])) _
    refine XS.iconst X19.here hx rfl (hb hby at_96) ?_
    show Steps p.tables e below (T19.setTop (mkF m 97 #[.val (.int ja), .val (.int jb), .val (.int kk), .val (.int (7 : Int32)), .val (.ref b1), .val (.ref b3), .val (.ref b10), .unset] [(.int (3 : Int32)), (.int (7 : Int32))])) _
    refine XS.icmpNo X19.here hx rfl (hb hby at_97) rfl (tlt (by decide : (3 : Int32) < (7 : Int32))).2.2.2 ?_
    show Steps p.tables e below (T19.setTop (mkF m 100 #[.val (.int ja), .val (.int jb), .val (.int kk), .val (.int (7 : Int32)), .val (.ref b1), .val (.ref b3), .val (.ref b10), .unset] [])) _
    refine XS.aload X19.here hx rfl (hb hby at_100) rfl rfl ?_
    show Steps p.tables e below (T19.setTop (mkF m 102 #[.val (.int ja), .val (.int jb), .val (.int kk), .val (.int (7 : Int32)), .val (.ref b1), .val (.ref b3), .val (.ref b10), .unset] [(.ref b10)])) _
    refine XS.aload X19.here hx rfl (hb hby at_102) rfl rfl ?_
    show Steps p.tables e below (T19.setTop (mkF m 104 #[.val (.int ja), .val (.int jb), .val (.int kk), .val (.int (7 : Int32)), .val (.ref b1), .val (.ref b3), .val (.ref b10), .unset] [(.ref b3), (.ref b10)])) _
    refine st21.trans ?_
    show Steps p.tables e below (T21.setTop (mkF m 107 #[.val (.int ja), .val (.int jb), .val (.int kk), .val (.int (7 : Int32)), .val (.ref b1), .val (.ref b3), .val (.ref b10), .unset] [(.int (1 : Int32))])) _
    refine XS.pop X21.here hx rfl (hb hby at_107) rfl rfl ?_
    show Steps p.tables e below (T21.setTop (mkF m 108 #[.val (.int ja), .val (.int jb), .val (.int kk), .val (.int (7 : Int32)), .val (.ref b1), .val (.ref b3), .val (.ref b10), .unset] [])) _
    refine XS.iloadN X21.here hx rfl (hb hby at_108) rfl ?_
    show Steps p.tables e below (T21.setTop (mkF m 109 #[.val (.int ja), .val (.int jb), .val (.int kk), .val (.int (7 : Int32)), .val (.ref b1), .val (.ref b3), .val (.ref b10), .unset] [(.int (7 : Int32))])) _
    refine XS.iconst X21.here hx rfl (hb hby at_109) ?_
    show Steps p.tables e below (T21.setTop (mkF m 110 #[.val (.int ja), .val (.int jb), .val (.int kk), .val (.int (7 : Int32)), .val (.ref b1), .val (.ref b3), .val (.ref b10), .unset] [(.int (4 : Int32)), (.int (7 : Int32))])) _
    refine XS.icmpNo X21.here hx rfl (hb hby at_110) rfl (tlt (by decide : (4 : Int32) < (7 : Int32))).2.2.2 ?_
    show Steps p.tables e below (T21.setTop (mkF m 113 #[.val (.int ja), .val (.int jb), .val (.int kk), .val (.int (7 : Int32)), .val (.ref b1), .val (.ref b3), .val (.ref b10), .unset] [])) _
    refine XS.aload X21.here hx rfl (hb hby at_113) rfl rfl ?_
    show Steps p.tables e below (T21.setTop (mkF m 115 #[.val (.int ja), .val (.int jb), .val (.int kk), .val (.int (7 : Int32)), .val (.ref b1), .val (.ref b3), .val (.ref b10), .unset] [(.ref b10)])) _
    refine XS.aload X21.here hx rfl (hb hby at_115) rfl rfl ?_
    show Steps p.tables e below (T21.setTop (mkF m 117 #[.val (.int ja), .val (.int jb), .val (.int kk), .val (.int (7 : Int32)), .val (.ref b1), .val (.ref b3), .val (.ref b10), .unset] [(.ref b3), (.ref b10)])) _
    refine st23.trans ?_
    show Steps p.tables e below (T23.setTop (mkF m 120 #[.val (.int ja), .val (.int jb), .val (.int kk), .val (.int (7 : Int32)), .val (.ref b1), .val (.ref b3), .val (.ref b10), .unset] [(.int (1 : Int32))])) _
    refine XS.pop X23.here hx rfl (hb hby at_120) rfl rfl ?_
    show Steps p.tables e below (T23.setTop (mkF m 121 #[.val (.int ja), .val (.int jb), .val (.int kk), .val (.int (7 : Int32)), .val (.ref b1), .val (.ref b3), .val (.ref b10), .unset] [])) _
    refine XS.iloadN X23.here hx rfl (hb hby at_121) rfl ?_
    show Steps p.tables e below (T23.setTop (mkF m 122 #[.val (.int ja), .val (.int jb), .val (.int kk), .val (.int (7 : Int32)), .val (.ref b1), .val (.ref b3), .val (.ref b10), .unset] [(.int (7 : Int32))])) _
    refine XS.iconst X23.here hx rfl (hb hby at_122) ?_
    show Steps p.tables e below (T23.setTop (mkF m 123 #[.val (.int ja), .val (.int jb), .val (.int kk), .val (.int (7 : Int32)), .val (.ref b1), .val (.ref b3), .val (.ref b10), .unset] [(.int (5 : Int32)), (.int (7 : Int32))])) _
    refine XS.icmpNo X23.here hx rfl (hb hby at_123) rfl (tlt (by decide : (5 : Int32) < (7 : Int32))).2.2.2 ?_
    show Steps p.tables e below (T23.setTop (mkF m 126 #[.val (.int ja), .val (.int jb), .val (.int kk), .val (.int (7 : Int32)), .val (.ref b1), .val (.ref b3), .val (.ref b10), .unset] [])) _
    refine XS.aload X23.here hx rfl (hb hby at_126) rfl rfl ?_
    show Steps p.tables e below (T23.setTop (mkF m 128 #[.val (.int ja), .val (.int jb), .val (.int kk), .val (.int (7 : Int32)), .val (.ref b1), .val (.ref b3), .val (.ref b10), .unset] [(.ref b10)])) _
    refine XS.aload X23.here hx rfl (hb hby at_128) rfl rfl ?_
    show Steps p.tables e below (T23.setTop (mkF m 130 #[.val (.int ja), .val (.int jb), .val (.int kk), .val (.int (7 : Int32)), .val (.ref b1), .val (.ref b3), .val (.ref b10), .unset] [(.ref b3), (.ref b10)])) _
    refine st25.trans ?_
    show Steps p.tables e below (T25.setTop (mkF m 133 #[.val (.int ja), .val (.int jb), .val (.int kk), .val (.int (7 : Int32)), .val (.ref b1), .val (.ref b3), .val (.ref b10), .unset] [(.int (1 : Int32))])) _
    refine XS.pop X25.here hx rfl (hb hby at_133) rfl rfl ?_
    show Steps p.tables e below (T25.setTop (mkF m 134 #[.val (.int ja), .val (.int jb), .val (.int kk), .val (.int (7 : Int32)), .val (.ref b1), .val (.ref b3), .val (.ref b10), .unset] [])) _
    refine XS.iloadN X25.here hx rfl (hb hby at_134) rfl ?_
    show Steps p.tables e below (T25.setTop (mkF m 135 #[.val (.int ja), .val (.int jb), .val (.int kk), .val (.int (7 : Int32)), .val (.ref b1), .val (.ref b3), .val (.ref b10), .unset] [(.int (7 : Int32))])) _
    refine XS.bipush X25.here hx rfl (hb hby at_135) ?_
    show Steps p.tables e below (T25.setTop (mkF m 137 #[.val (.int ja), .val (.int jb), .val (.int kk), .val (.int (7 : Int32)), .val (.ref b1), .val (.ref b3), .val (.ref b10), .unset] [(.int (6 : Int32)), (.int (7 : Int32))])) _
    refine XS.icmpNo X25.here hx rfl (hb hby at_137) rfl (tlt (by decide : (6 : Int32) < (7 : Int32))).2.2.2 ?_
    show Steps p.tables e below (T25.setTop (mkF m 140 #[.val (.int ja), .val (.int jb), .val (.int kk), .val (.int (7 : Int32)), .val (.ref b1), .val (.ref b3), .val (.ref b10), .unset] [])) _
    refine XS.aload X25.here hx rfl (hb hby at_140) rfl rfl ?_
    show Steps p.tables e below (T25.setTop (mkF m 142 #[.val (.int ja), .val (.int jb), .val (.int kk), .val (.int (7 : Int32)), .val (.ref b1), .val (.ref b3), .val (.ref b10), .unset] [(.ref b10)])) _
    refine XS.aload X25.here hx rfl (hb hby at_142) rfl rfl ?_
    show Steps p.tables e below (T25.setTop (mkF m 144 #[.val (.int ja), .val (.int jb), .val (.int kk), .val (.int (7 : Int32)), .val (.ref b1), .val (.ref b3), .val (.ref b10), .unset] [(.ref b3), (.ref b10)])) _
    refine st27.trans ?_
    show Steps p.tables e below (T27.setTop (mkF m 147 #[.val (.int ja), .val (.int jb), .val (.int kk), .val (.int (7 : Int32)), .val (.ref b1), .val (.ref b3), .val (.ref b10), .unset] [(.int (1 : Int32))])) _
    refine XS.pop X27.here hx rfl (hb hby at_147) rfl rfl ?_
    show Steps p.tables e below (T27.setTop (mkF m 148 #[.val (.int ja), .val (.int jb), .val (.int kk), .val (.int (7 : Int32)), .val (.ref b1), .val (.ref b3), .val (.ref b10), .unset] [])) _
    refine XS.iloadN X27.here hx rfl (hb hby at_148) rfl ?_
    show Steps p.tables e below (T27.setTop (mkF m 149 #[.val (.int ja), .val (.int jb), .val (.int kk), .val (.int (7 : Int32)), .val (.ref b1), .val (.ref b3), .val (.ref b10), .unset] [(.int (7 : Int32))])) _
    refine XS.iloadN X27.here hx rfl (hb hby at_149) rfl ?_
    show Steps p.tables e below (T27.setTop (mkF m 150 #[.val (.int ja), .val (.int jb), .val (.int kk), .val (.int (7 : Int32)), .val (.ref b1), .val (.ref b3), .val (.ref b10), .unset] [(.int kk), (.int (7 : Int32))])) _
    refine XS.icmpYes X27.here hx rfl (pc0 := 150) (pc' := 157) rfl (hb hby at_150) rfl (tlt hrd).2.2.1 (by decide) (by decide) ?_
    show Steps p.tables e below (T27.setTop (mkF m 157 #[.val (.int ja), .val (.int jb), .val (.int kk), .val (.int (7 : Int32)), .val (.ref b1), .val (.ref b3), .val (.ref b10), .unset] [])) _
    refine XS.iconst X27.here hx rfl (hb hby at_157) ?_
    show Steps p.tables e below (T27.setTop (mkF m 158 #[.val (.int ja), .val (.int jb), .val (.int kk), .val (.int (7 : Int32)), .val (.ref b1), .val (.ref b3), .val (.ref b10), .unset] [(.int (0 : Int32))])) _
    refine XS.istore X27.here hx rfl (hb hby at_158) rfl (l' := #[.val (.int ja), .val (.int jb), .val (.int kk), .val (.int (7 : Int32)), .val (.ref b1), .val (.ref b3), .val (.ref b10), .val (.int (0 : Int32))]) rfl ?_
    show Steps p.tables e below (T27.setTop (mkF m 160 #[.val (.int ja), .val (.int jb), .val (.int kk), .val (.int (7 : Int32)), .val (.ref b1), .val (.ref b3), .val (.ref b10), .val (.int (0 : Int32))] [])) _
    refine XS.aload X27.here hx rfl (hb hby at_160) rfl rfl ?_
    show Steps p.tables e below (T27.setTop (mkF m 162 #[.val (.int ja), .val (.int jb), .val (.int kk), .val (.int (7 : Int32)), .val (.ref b1), .val (.ref b3), .val (.ref b10), .val (.int (0 : Int32))] [(.ref b1)])) _
    refine XS.aload X27.here hx rfl (hb hby at_162) rfl rfl ?_
    show Steps p.tables e below (T27.setTop (mkF m 164 #[.val (.int ja), .val (.int jb), .val (.int kk), .val (.int (7 : Int32)), .val (.ref b1), .val (.ref b3), .val (.ref b10), .val (.int (0 : Int32))] [(.ref b10), (.ref b1)])) _
    refine st29.trans ?_
    show Steps p.tables e below (T29.setTop (mkF m 167 #[.val (.int ja), .val (.int jb), .val (.int kk), .val (.int (7 : Int32)), .val (.ref b1), .val (.ref b3), .val (.ref b10), .val (.int (0 : Int32))] [(.int (0 : Int32))])) _
    refine XS.iload X29.here hx rfl (hb hby at_167) rfl ?_
    show Steps p.tables e below (T29.setTop (mkF m 169 #[.val (.int ja), .val (.int jb), .val (.int kk), .val (.int (7 : Int32)), .val (.ref b1), .val (.ref b3), .val (.ref b10), .val (.int (0 : Int32))] [(.int (0 : Int32)), (.int (0 : Int32))])) _
    refine XS.icmpNo X29.here hx rfl (hb hby at_169) rfl (teq (rfl : (0 : Int32) = (0 : Int32))).2 ?_
    show Steps p.tables e below (T29.setTop (mkF m 172 #[.val (.int ja), .val (.int jb), .val (.int kk), .val (.int (7 : Int32)), .val (.ref b1), .val (.ref b3), .val (.ref b10), .val (.int (0 : Int32))] [])) _
    refine XS.iconst X29.here hx rfl (hb hby at_172) ?_
    show Steps p.tables e below (T29.setTop (mkF m 173 #[.val (.int ja), .val (.int jb), .val (.int kk), .val (.int (7 : Int32)), .val (.ref b1), .val (.ref b3), .val (.ref b10), .val (.int (0 : Int32))] [(.int (1 : Int32))])) _
    refine XS.goto X29.here hx rfl (pc0 := 173) (pc' := 177) rfl (hb hby at_173) (by decide) (by decide) ?_
    show Steps p.tables e below (T29.setTop (mkF m 177 #[.val (.int ja), .val (.int jb), .val (.int kk), .val (.int (7 : Int32)), .val (.ref b1), .val (.ref b3), .val (.ref b10), .val (.int (0 : Int32))] [(.int (1 : Int32))])) _
    exact retN X29 hx (t := .boolean) Bd.returns (by simp) (hb hby at_177) hr
  · show Q_rm0_7t Z ja jb kk de kd h0 n0 _ T29.heap _
    rw [e29]
    exact ⟨rfl, N29⟩
def Q_rm0_7f (Z : State) (ja : Int32) (jb : Int32) (kk : Int32) (de : Addr) (kd : ClassId) (h0 : Heap) (n0 : Nat) (v : Option Value) (h : Heap) (L : List Loc) : Prop := v = some (.int (1 : Int32)) ∧ Fr n0 L
theorem ef_rm0_7f (m : MethodId) (ja : Int32) (jb : Int32) : entryFrame m #[(.int ja), (.int jb)] maxLocals = mkF m 0 #[.val (.int ja), .val (.int jb), .unset, .unset, .unset, .unset, .unset, .unset] [] := by first | (simp [entryFrame, mkF, argsToLocals, Value.category, maxLocals]; done) | rfl
set_option maxRecDepth 65536 in
set_option maxHeartbeats 40000000 in
theorem rm0_7f (l : Launch) (Z : State) (a0 : Array Value) (hw : ∀ d ∈ tables_1, d.before a0 Z = true) (ws : List Jvm.Cond) (ja : Int32) (jb : Int32) (kk : Int32) (de : Addr) (kd : ClassId) (h0 : Heap) (n0 : Nat) (Z0 : n0 ≤ h0.size) (hwS : ∀ a ∈ Bundle.stringAtoms, a.before a0 Z = true) (hn0 : n0 = h0.size) (hcn : Jvm.Lit.constHeld Z "com/example/sortition/sortition/SlotsAllowsPinLaw" 15) (hcw : Jvm.Lit.compactW.before a0 Z = true) (S_DE : Sta Z h0 "java/util/ArrayList" "DEFAULTCAPACITY_EMPTY_ELEMENTDATA" "[Ljava/lang/Object;" (.ref de)) (V_de : Arv Z h0 de kd (.object "java/lang/Object") (0 : Int32) [] .null) (hkk : (own_k ja jb) = kk) (gkk : ¬ (kk < (0 : Int32))) (hn : (jb &&& (7 : Int32)) = (7 : Int32)) (hrd : ¬ (kk < (7 : Int32))) :
    MetFree l x (head1 (Jvm.Cond.code x code maxLocals ret :: ws) room_1) (fun a U => a = #[(.int ja), (.int jb)] ∧ Z.Warmed39 U.vm ∧ U.heap = h0 ∧ U.vm.interned = Z.vm.interned ∧ (∀ (b : Addr) (cl : Cell), Z.heap[b]? = some cl → U.heap[b]? = some cl)) (fun _ _ _ _ _ => True) (fun _ U o U' => ∃ v L, o = .returned v ∧ Q_rm0_7f Z ja jb kk de kd h0 n0 v U'.heap L ∧ ReturnedEndW U o U' L room_1.cells room_1.slots) := by
  refine MetFree.of_bodySF (plainFor_of_name pn_8) hisR ?_
  intro p e s m args below meth c s₁ Bd hml0 hP hK
  obtain ⟨rfl, hZ, hh, hI0, hK0⟩ := hP
  have hx := Bd.exec
  have hby := Bd.bytes
  have hml : c.maxLocals = 8 := hml0
  have hown : s.vm.findClass "com/example/sortition/sortition/SlotsAllowsPinLaw" = some m.cls := findClass_of_methodNamed Bd.named
  have hnm := (name_of_methodNamed Bd.named Bd.method).1
  have X0 : Stand p l e room_1 s m #[(.int ja), (.int jb)] below meth c s₁ [] 0 0 := Stand.of_body Bd
  have e0 : s₁.heap = h0 := by rw [← hh, Bd.state]; rfl
  have N0 := Fr.nil n0
  have hS0 := (State.WarmedH.refl s).since 0
  have pre0 : ∀ t, Steps p.tables e below (s₁.setTop (mkF m 0 #[.val (.int ja), .val (.int jb), .unset, .unset, .unset, .unset, .unset, .unset] [])) t → Steps p.tables e below (s₁.setTop (entryFrame m #[(.int ja), (.int jb)] maxLocals)) t := fun t k => castTop (ef_rm0_7f m ja jb) k
  have stp := own_pre ja jb X0 hx hZ hw hby hown
  rw [hkk] at stp
  obtain ⟨T1, h1, X1, e1, E1, A1, D1, -, st1⟩ := newO X0 hx hZ hown (ow hw 0 rfl) (ow hw 1 rfl) (ow hw 2 rfl) e0 (g := (mkF m 25 #[.val (.int ja), .val (.int jb), .val (.int kk), .val (.int (7 : Int32)), .unset, .unset, .unset, .unset] [])) rfl (hb hby at_25) (by decide) (by decide)
  obtain ⟨b1, g1⟩ : ∃ z, z = h0.size := ⟨_, rfl⟩
  rw [← g1] at A1 D1 st1
  have F1_3 : Fld Z h1 b1 "com/example/sortition/sortition/Slots" "size" "I" (.int (0 : Int32)) := D1 (Or.inr (ow hw 15 rfl)) (ty := .int) (by decide)
  obtain ⟨_, _, ⟨T2, L2, k2, n2⟩, -, X2, ⟨Lc2, hQ2, l2, y2, z2⟩, st2⟩ := X1.specialBack hx (y := (⟨"com/example/sortition/sortition/Slots", "<init>", "(I)V"⟩ : MethodName)) rfl hown (mvT hZ (ow hw 3 rfl)) (mvT hZ (ow hw 4 rfl)) (mvT hZ (ow hw 5 rfl)) (by decide) (backOf (W := 1) (rmSl l Z a0 hw [] b1 kk (.int (0 : Int32)) h1 n0 (Nat.le_trans Z0 E1.1) gkk F1_3 A1 (Nat.le_trans Z0 (Nat.le_of_eq g1.symm))) hZ (ow hw 5 rfl) (ow hw 2 rfl) (by decide) (by decide)) (g := (mkF m 30 #[.val (.int ja), .val (.int jb), .val (.int kk), .val (.int (7 : Int32)), .unset, .unset, .unset, .unset] [(.int kk), (.ref b1), (.ref b1)])) rfl (by rw [hml]; rfl) (Steps.refl _) (a := b1) (argsL := [(.int kk)]) (rest := [(.ref b1)]) (lenOf pd_8 rfl) rfl (by show 2 * 0 + _ ≤ _; exact Nat.le_of_eq rfl) (hb hby at_30) (fun _ _ => ⟨rfl, e1, (by decide : 1 + 0 ≤ _), (by decide : 1 + 0 ≤ _)⟩)
  dsimp only [Pt.U, Pt.locs, Pt.cells, Pt.slots] at X2 l2 y2 z2 st2 hQ2
  subst l2 y2 z2
  obtain ⟨rfl, Nq2, Kp2, Fq2_0, Fq2_1⟩ := hQ2
  have N2 := Fr.app N0 Nq2
  obtain ⟨T3, h3, X3, e3, E3, A3, D3, -, st3⟩ := newO X2 hx hZ hown (ow hw 16 rfl) (ow hw 17 rfl) (ow hw 18 rfl) rfl (g := (mkF m 35 #[.val (.int ja), .val (.int jb), .val (.int kk), .val (.int (7 : Int32)), .val (.ref b1), .unset, .unset, .unset] [])) rfl (hb hby at_35) (by decide) (by decide)
  obtain ⟨b3, g3⟩ : ∃ z, z = T2.heap.size := ⟨_, rfl⟩
  rw [← g3] at A3 D3 st3
  have F3_5 : Fld Z h3 b3 "com/example/sortition/sortition/Element" "index" "I" (.int (0 : Int32)) := D3 (Or.inr (ow hw 44 rfl)) (ty := .int) (by decide)
  have F3_6 : Fld Z h3 b3 "com/example/sortition/sortition/Element" "id" "Ljava/lang/String;" .null := D3 (Or.inr (ow hw 46 rfl)) (ty := (.object "java/lang/String")) (by decide)
  have F3_7 : Fld Z h3 b3 "com/example/sortition/sortition/Element" "value" "D" (.double 0) := D3 (Or.inr (ow hw 48 rfl)) (ty := .double) (by decide)
  obtain ⟨a4, T4, h4, k4, b4, kc4, X4, e4, E4, hS4, hk4, hZ4, hown4, A4, -, Fv4, V4, -, -, -, st4⟩ := ldcSV (s := s) (vm0 := s.vm) X3 hx hZ hown (ow hw 19 rfl) hwS e3 hS0 (Nat.le_trans (Nat.le_trans (Nat.le_trans (Nat.zero_le _) E1.1) Kp2.1) E3.1) (by rw [hh, ← hn0]; exact N2) hK0 (⟨#[], by simpa using hI0, fun q hq => by simp at hq⟩ : IB Z s.vm []) (by simp) hcn hcw (vs := [(.int (120 : Int32))]) (z := (1 : Int32)) ⟨by decide, by decide⟩ (by decide) rfl (g := (mkF m 40 #[.val (.int ja), .val (.int jb), .val (.int kk), .val (.int (7 : Int32)), .val (.ref b1), .unset, .unset, .unset] [(.int (0 : Int32)), (.ref b3), (.ref b3)])) rfl (hb hby at_40) (n := 4) (by decide) (by decide) (by decide) (by decide)
  have f6 : Fld Z h4 b3 "com/example/sortition/sortition/Element" "index" "I" (.int (0 : Int32)) := (F3_5.ext E4)
  have f7 : Exa Z h4 b3 "com/example/sortition/sortition/Element" := (A3.ext E4)
  have f8 : Fld Z h4 b3 "com/example/sortition/sortition/Element" "id" "Ljava/lang/String;" .null := (F3_6.ext E4)
  have f9 : Fld Z h4 b3 "com/example/sortition/sortition/Element" "value" "D" (.double 0) := (F3_7.ext E4)
  obtain ⟨_, _, ⟨T5, L5, k5, n5⟩, -, X5, hSq5, hgq5, ⟨Lc5, hQ5, l5, y5, z5⟩, st5⟩ := X4.specialBackS hx (y := (⟨"com/example/sortition/sortition/Element", "<init>", "(ILjava/lang/String;D)V"⟩ : MethodName)) rfl hown4 (mvT hZ4 (ow hw 27 rfl)) (mvT hZ4 (ow hw 28 rfl)) (mvT hZ4 (ow hw 29 rfl)) (by decide) (backOfS (W := 1) (rmEI l Z a0 hw [] b3 (0 : Int32) a4 4607182418800017408 b4 kc4 [(.int (120 : Int32))] (.int (0 : Int32)) .null (.double 0) h4 n0 (Nat.le_trans (Nat.le_trans (Nat.le_trans (Nat.le_trans Z0 E1.1) Kp2.1) E3.1) E4.1) hwS A4 Fv4 V4 (by first | assumption | decide) (by decide +kernel) (by decide +kernel) own_nn1 f6 f7 (Nat.le_trans (Nat.le_trans (Nat.le_trans Z0 E1.1) Kp2.1) (Nat.le_of_eq g3.symm)) f8 f9) hZ4 (ow hw 29 rfl) (ow hw 18 rfl) (by decide) (by decide)) (g := (mkF m 43 #[.val (.int ja), .val (.int jb), .val (.int kk), .val (.int (7 : Int32)), .val (.ref b1), .unset, .unset, .unset] [(.double 4607182418800017408), (.ref a4), (.int (0 : Int32)), (.ref b3), (.ref b3)])) rfl (by rw [hml]; rfl) (Steps.refl _) (a := b3) (argsL := [(.int (0 : Int32)), (.ref a4), (.double 4607182418800017408)]) (rest := [(.ref b3)]) (lenOf pd_9 rfl) rfl (by show 2 * 0 + _ ≤ _; exact Nat.le_of_eq rfl) (hb hby at_43) (fun _ _ => ⟨rfl, e4, (by decide : 4 + 2 ≤ _), (by decide : 12 + 12 ≤ _)⟩)
  dsimp only [Pt.U, Pt.locs, Pt.cells, Pt.slots] at X5 l5 y5 z5 st5 hQ5 hSq5 hgq5
  subst l5 y5 z5
  obtain ⟨X5, hS5, hZ5, hown5⟩ := rebS (s := s) (vm0 := T4.vm) hS4 (by rw [e4]; exact hk4) X5 hSq5 hgq5 hZ4 hown4
  obtain ⟨rfl, Nq5, Kp5, Fq5_0, Fq5_1, Fq5_2⟩ := hQ5
  have N5 := Fr.app N2 Nq5
  obtain ⟨T10, h10, X10, e10, E10, A10, D10, -, st10⟩ := newO X5 hx hZ5 hown5 (ow hw 49 rfl) (ow hw 50 rfl) (ow hw 51 rfl) rfl (g := (mkF m 48 #[.val (.int ja), .val (.int jb), .val (.int kk), .val (.int (7 : Int32)), .val (.ref b1), .val (.ref b3), .unset, .unset] [])) rfl (hb hby at_48) (by decide) (by decide)
  obtain ⟨b10, g10⟩ : ∃ z, z = T5.heap.size := ⟨_, rfl⟩
  rw [← g10] at A10 D10 st10
  have F10_12 : Fld Z h10 b10 "java/util/AbstractList" "modCount" "I" (.int (0 : Int32)) := D10 (Or.inl (ow hw 69 rfl)) (ty := .int) (by decide)
  have F10_13 : Fld Z h10 b10 "java/util/ArrayList" "elementData" "[Ljava/lang/Object;" .null := D10 (Or.inl (ow hw 72 rfl)) (ty := (.array (.object "java/lang/Object"))) (by decide)
  have F10_14 : Fld Z h10 b10 "java/util/ArrayList" "size" "I" (.int (0 : Int32)) := D10 (Or.inl (ow hw 81 rfl)) (ty := .int) (by decide)
  have f12 : Sta Z h10 "java/util/ArrayList" "DEFAULTCAPACITY_EMPTY_ELEMENTDATA" "[Ljava/lang/Object;" (.ref de) := ((Sta_keep (((Sta_keep (S_DE.ext E1) Kp2 (nsS A1.nostat ns0)).ext E3).ext E4) Kp5 (nsS f7.nostat ns0)).ext E10)
  obtain ⟨_, _, ⟨T11, L11, k11, n11⟩, -, X11, ⟨Lc11, hQ11, l11, y11, z11⟩, st11⟩ := X10.specialBack hx (y := (⟨"java/util/ArrayList", "<init>", "()V"⟩ : MethodName)) rfl hown5 (mvT hZ5 (ow hw 52 rfl)) (mvT hZ5 (ow hw 53 rfl)) (mvT hZ5 (ow hw 54 rfl)) (by decide) (backOf (W := 1) (rmAL l Z a0 hw [] b10 de (.int (0 : Int32)) .null h10 n0 (Nat.le_trans (Nat.le_trans (Nat.le_trans (Nat.le_trans (Nat.le_trans (Nat.le_trans Z0 E1.1) Kp2.1) E3.1) E4.1) Kp5.1) E10.1) A10 F10_12 F10_13 f12 F10_14 (Nat.le_trans (Nat.le_trans (Nat.le_trans (Nat.le_trans (Nat.le_trans (Nat.le_trans Z0 E1.1) Kp2.1) E3.1) E4.1) Kp5.1) (Nat.le_of_eq g10.symm))) hZ5 (ow hw 54 rfl) (ow hw 51 rfl) (by decide) (by decide)) (g := (mkF m 52 #[.val (.int ja), .val (.int jb), .val (.int kk), .val (.int (7 : Int32)), .val (.ref b1), .val (.ref b3), .unset, .unset] [(.ref b10), (.ref b10)])) rfl (by rw [hml]; rfl) (Steps.refl _) (a := b10) (argsL := []) (rest := [(.ref b10)]) (lenOf pd_0 rfl) rfl (by show 2 * 0 + _ ≤ _; exact Nat.le_of_eq rfl) (hb hby at_52) (fun _ _ => ⟨rfl, e10, (by decide : 7 + 0 ≤ _), (by decide : 27 + 0 ≤ _)⟩)
  dsimp only [Pt.U, Pt.locs, Pt.cells, Pt.slots] at X11 l11 y11 z11 st11 hQ11
  subst l11 y11 z11
  obtain ⟨rfl, Nq11, Kp11, Fq11_0, Fq11_1, Fq11_2, Fq11_3⟩ := hQ11
  have N11 := Fr.app N5 Nq11
  have f14 : Arv Z T11.heap de kd (.object "java/lang/Object") (0 : Int32) [] .null := (((((((V_de.ext E1).keep Kp2 (ninS (Nat.ne_of_lt (Nat.lt_of_lt_of_le V_de.lt (Nat.le_of_eq g1.symm))) nin0)).ext E3).ext E4).keep Kp5 (ninS (Nat.ne_of_lt (Nat.lt_of_lt_of_le ((V_de.ext E1).keep Kp2 (ninS (Nat.ne_of_lt (Nat.lt_of_lt_of_le V_de.lt (Nat.le_of_eq g1.symm))) nin0)).lt (Nat.le_of_eq g3.symm))) nin0)).ext E10).keep Kp11 (ninS (Nat.ne_of_lt (Nat.lt_of_lt_of_le (((((V_de.ext E1).keep Kp2 (ninS (Nat.ne_of_lt (Nat.lt_of_lt_of_le V_de.lt (Nat.le_of_eq g1.symm))) nin0)).ext E3).ext E4).keep Kp5 (ninS (Nat.ne_of_lt (Nat.lt_of_lt_of_le ((V_de.ext E1).keep Kp2 (ninS (Nat.ne_of_lt (Nat.lt_of_lt_of_le V_de.lt (Nat.le_of_eq g1.symm))) nin0)).lt (Nat.le_of_eq g3.symm))) nin0)).lt (Nat.le_of_eq g10.symm))) nin0))
  have f15 : Sta Z T11.heap "java/util/ArrayList" "DEFAULTCAPACITY_EMPTY_ELEMENTDATA" "[Ljava/lang/Object;" (.ref de) := (Sta_keep f12 Kp11 (nsS A10.nostat ns0))
  have f16 : Exa Z T11.heap b3 "com/example/sortition/sortition/Element" := ((Fq5_0.ext E10).keep Kp11)
  obtain ⟨cq13, kq13, q13a, q13b, q13c⟩ := isOf hZ5 rfl Fq11_0
  obtain ⟨_, _, ⟨T13, L13, k13, n13⟩, -, X13, ⟨Lc13, hQ13, l13, y13, z13⟩, st13⟩ := X11.virtualBack hx (y := (⟨"java/util/ArrayList", "add", "(Ljava/lang/Object;)Z"⟩ : MethodName)) (z := (⟨"java/util/ArrayList", "add", "(Ljava/lang/Object;)Z"⟩ : MethodName)) hown5 (mvT hZ5 (ow hw 73 rfl)) (mvT hZ5 (ow hw 74 rfl)) (notFace_of_selects (args := #[]) (mvT hZ5 (ow hw 76 rfl))) (mvT hZ5 (ow hw 76 rfl)) (mvT hZ5 (ow hw 75 rfl)) (by decide) (backOf (W := 0) (rmA0 l Z a0 hw [] b10 b3 de kd (0 : Int32) T11.heap n0 (Nat.le_trans (Nat.le_trans (Nat.le_trans (Nat.le_trans (Nat.le_trans (Nat.le_trans (Nat.le_trans Z0 E1.1) Kp2.1) E3.1) E4.1) Kp5.1) E10.1) Kp11.1) Fq11_1 Fq11_0 Fq11_2 Fq11_3 f14 f15 f16 (Nat.le_trans (Nat.le_trans (Nat.le_trans (Nat.le_trans (Nat.le_trans (Nat.le_trans Z0 E1.1) Kp2.1) E3.1) E4.1) Kp5.1) (Nat.le_of_eq g10.symm)) (Nat.ne_of_lt (Nat.lt_of_lt_of_le (((((V_de.ext E1).keep Kp2 (ninS (Nat.ne_of_lt (Nat.lt_of_lt_of_le V_de.lt (Nat.le_of_eq g1.symm))) nin0)).ext E3).ext E4).keep Kp5 (ninS (Nat.ne_of_lt (Nat.lt_of_lt_of_le ((V_de.ext E1).keep Kp2 (ninS (Nat.ne_of_lt (Nat.lt_of_lt_of_le V_de.lt (Nat.le_of_eq g1.symm))) nin0)).lt (Nat.le_of_eq g3.symm))) nin0)).lt (Nat.le_of_eq g10.symm)))) hZ5 (ow hw 77 rfl) (ow hw 51 rfl) (by decide) (by decide)) q13a q13c (g := (mkF m 65 #[.val (.int ja), .val (.int jb), .val (.int kk), .val (.int (7 : Int32)), .val (.ref b1), .val (.ref b3), .val (.ref b10), .unset] [(.ref b3), (.ref b10)])) rfl (by rw [hml]; rfl) (Steps.refl _) (argsL := [(.ref b3)]) (rest := []) (lenOf pd_11 rfl) rfl (by show 2 * 0 + _ ≤ _; exact Nat.le_of_eq rfl) (hb hby at_65) (fun _ _ => ⟨rfl, rfl, (by decide : 7 + 1 ≤ _), (by decide : 27 + 10 ≤ _)⟩)
  dsimp only [Pt.U, Pt.locs, Pt.cells, Pt.slots] at X13 l13 y13 z13 st13 hQ13
  subst l13 y13 z13
  obtain ⟨nb_13, ka_13, rfl, Nq13, gb13_0, Kp13, Fq13_0, Fq13_1, Fq13_2, Fq13_3, Fq13_4, Pq13_0⟩ := hQ13
  have N13 := Fr.app N11 Nq13
  have f18 : Exa Z T13.heap b3 "com/example/sortition/sortition/Element" := (f16.keep Kp13)
  obtain ⟨cq17, kq17, q17a, q17b, q17c⟩ := isOf hZ5 rfl Fq13_0
  obtain ⟨_, _, ⟨T17, L17, k17, n17⟩, -, X17, ⟨Lc17, hQ17, l17, y17, z17⟩, st17⟩ := X13.virtualBack hx (y := (⟨"java/util/ArrayList", "add", "(Ljava/lang/Object;)Z"⟩ : MethodName)) (z := (⟨"java/util/ArrayList", "add", "(Ljava/lang/Object;)Z"⟩ : MethodName)) hown5 (mvT hZ5 (ow hw 73 rfl)) (mvT hZ5 (ow hw 74 rfl)) (notFace_of_selects (args := #[]) (mvT hZ5 (ow hw 76 rfl))) (mvT hZ5 (ow hw 76 rfl)) (mvT hZ5 (ow hw 75 rfl)) (by decide) (backOf (W := 0) (rmA1 l Z a0 hw [] b10 b3 nb_13 ka_13 ((0 : Int32) + (1 : Int32)) T13.heap n0 (Nat.le_trans (Nat.le_trans (Nat.le_trans (Nat.le_trans (Nat.le_trans (Nat.le_trans (Nat.le_trans (Nat.le_trans Z0 E1.1) Kp2.1) E3.1) E4.1) Kp5.1) E10.1) Kp11.1) Kp13.1) Fq13_1 Fq13_0 Fq13_2 Fq13_3 Fq13_4 Pq13_0 f18 (Nat.le_trans (Nat.le_trans (Nat.le_trans (Nat.le_trans (Nat.le_trans (Nat.le_trans Z0 E1.1) Kp2.1) E3.1) E4.1) Kp5.1) (Nat.le_of_eq g10.symm)) (Ne.symm (Nat.ne_of_lt (Nat.lt_of_lt_of_le Fq11_0.lt gb13_0))) (Nat.le_trans (Nat.le_trans (Nat.le_trans (Nat.le_trans (Nat.le_trans (Nat.le_trans (Nat.le_trans (Nat.le_trans Z0 E1.1) Kp2.1) E3.1) E4.1) Kp5.1) E10.1) Kp11.1) gb13_0)) hZ5 (ow hw 77 rfl) (ow hw 51 rfl) (by decide) (by decide)) q17a q17c (g := (mkF m 78 #[.val (.int ja), .val (.int jb), .val (.int kk), .val (.int (7 : Int32)), .val (.ref b1), .val (.ref b3), .val (.ref b10), .unset] [(.ref b3), (.ref b10)])) rfl (by rw [hml]; rfl) (Steps.refl _) (argsL := [(.ref b3)]) (rest := []) (lenOf pd_11 rfl) rfl (by show 2 * 0 + _ ≤ _; exact Nat.le_of_eq rfl) (hb hby at_78) (fun _ _ => ⟨rfl, rfl, (by decide : 8 + 0 ≤ _), (by decide : 37 + 0 ≤ _)⟩)
  dsimp only [Pt.U, Pt.locs, Pt.cells, Pt.slots] at X17 l17 y17 z17 st17 hQ17
  subst l17 y17 z17
  obtain ⟨rfl, Nq17, Kp17, Fq17_0, Fq17_1, Fq17_2, Fq17_3, Fq17_4⟩ := hQ17
  have N17 := Fr.app N13 Nq17
  have f20 : Exa Z T17.heap b3 "com/example/sortition/sortition/Element" := (f18.keep Kp17)
  obtain ⟨cq19, kq19, q19a, q19b, q19c⟩ := isOf hZ5 rfl Fq17_0
  obtain ⟨_, _, ⟨T19, L19, k19, n19⟩, -, X19, ⟨Lc19, hQ19, l19, y19, z19⟩, st19⟩ := X17.virtualBack hx (y := (⟨"java/util/ArrayList", "add", "(Ljava/lang/Object;)Z"⟩ : MethodName)) (z := (⟨"java/util/ArrayList", "add", "(Ljava/lang/Object;)Z"⟩ : MethodName)) hown5 (mvT hZ5 (ow hw 73 rfl)) (mvT hZ5 (ow hw 74 rfl)) (notFace_of_selects (args := #[]) (mvT hZ5 (ow hw 76 rfl))) (mvT hZ5 (ow hw 76 rfl)) (mvT hZ5 (ow hw 75 rfl)) (by decide) (backOf (W := 0) (rmA2 l Z a0 hw [] b10 b3 nb_13 ka_13 (((0 : Int32) + (1 : Int32)) + (1 : Int32)) T17.heap n0 (Nat.le_trans (Nat.le_trans (Nat.le_trans (Nat.le_trans (Nat.le_trans (Nat.le_trans (Nat.le_trans (Nat.le_trans (Nat.le_trans Z0 E1.1) Kp2.1) E3.1) E4.1) Kp5.1) E10.1) Kp11.1) Kp13.1) Kp17.1) Fq17_1 Fq17_0 Fq17_2 Fq17_3 Fq17_4 Pq13_0 f20 (Nat.le_trans (Nat.le_trans (Nat.le_trans (Nat.le_trans (Nat.le_trans (Nat.le_trans Z0 E1.1) Kp2.1) E3.1) E4.1) Kp5.1) (Nat.le_of_eq g10.symm)) (Ne.symm (Nat.ne_of_lt (Nat.lt_of_lt_of_le Fq11_0.lt gb13_0))) (Nat.le_trans (Nat.le_trans (Nat.le_trans (Nat.le_trans (Nat.le_trans (Nat.le_trans (Nat.le_trans (Nat.le_trans Z0 E1.1) Kp2.1) E3.1) E4.1) Kp5.1) E10.1) Kp11.1) gb13_0)) hZ5 (ow hw 77 rfl) (ow hw 51 rfl) (by decide) (by decide)) q19a q19c (g := (mkF m 91 #[.val (.int ja), .val (.int jb), .val (.int kk), .val (.int (7 : Int32)), .val (.ref b1), .val (.ref b3), .val (.ref b10), .unset] [(.ref b3), (.ref b10)])) rfl (by rw [hml]; rfl) (Steps.refl _) (argsL := [(.ref b3)]) (rest := []) (lenOf pd_11 rfl) rfl (by show 2 * 0 + _ ≤ _; exact Nat.le_of_eq rfl) (hb hby at_91) (fun _ _ => ⟨rfl, rfl, (by decide : 8 + 0 ≤ _), (by decide : 37 + 0 ≤ _)⟩)
  dsimp only [Pt.U, Pt.locs, Pt.cells, Pt.slots] at X19 l19 y19 z19 st19 hQ19
  subst l19 y19 z19
  obtain ⟨rfl, Nq19, Kp19, Fq19_0, Fq19_1, Fq19_2, Fq19_3, Fq19_4⟩ := hQ19
  have N19 := Fr.app N17 Nq19
  have f22 : Exa Z T19.heap b3 "com/example/sortition/sortition/Element" := (f20.keep Kp19)
  obtain ⟨cq21, kq21, q21a, q21b, q21c⟩ := isOf hZ5 rfl Fq19_0
  obtain ⟨_, _, ⟨T21, L21, k21, n21⟩, -, X21, ⟨Lc21, hQ21, l21, y21, z21⟩, st21⟩ := X19.virtualBack hx (y := (⟨"java/util/ArrayList", "add", "(Ljava/lang/Object;)Z"⟩ : MethodName)) (z := (⟨"java/util/ArrayList", "add", "(Ljava/lang/Object;)Z"⟩ : MethodName)) hown5 (mvT hZ5 (ow hw 73 rfl)) (mvT hZ5 (ow hw 74 rfl)) (notFace_of_selects (args := #[]) (mvT hZ5 (ow hw 76 rfl))) (mvT hZ5 (ow hw 76 rfl)) (mvT hZ5 (ow hw 75 rfl)) (by decide) (backOf (W := 0) (rmA3 l Z a0 hw [] b10 b3 nb_13 ka_13 ((((0 : Int32) + (1 : Int32)) + (1 : Int32)) + (1 : Int32)) T19.heap n0 (Nat.le_trans (Nat.le_trans (Nat.le_trans (Nat.le_trans (Nat.le_trans (Nat.le_trans (Nat.le_trans (Nat.le_trans (Nat.le_trans (Nat.le_trans Z0 E1.1) Kp2.1) E3.1) E4.1) Kp5.1) E10.1) Kp11.1) Kp13.1) Kp17.1) Kp19.1) Fq19_1 Fq19_0 Fq19_2 Fq19_3 Fq19_4 Pq13_0 f22 (Nat.le_trans (Nat.le_trans (Nat.le_trans (Nat.le_trans (Nat.le_trans (Nat.le_trans Z0 E1.1) Kp2.1) E3.1) E4.1) Kp5.1) (Nat.le_of_eq g10.symm)) (Ne.symm (Nat.ne_of_lt (Nat.lt_of_lt_of_le Fq11_0.lt gb13_0))) (Nat.le_trans (Nat.le_trans (Nat.le_trans (Nat.le_trans (Nat.le_trans (Nat.le_trans (Nat.le_trans (Nat.le_trans Z0 E1.1) Kp2.1) E3.1) E4.1) Kp5.1) E10.1) Kp11.1) gb13_0)) hZ5 (ow hw 77 rfl) (ow hw 51 rfl) (by decide) (by decide)) q21a q21c (g := (mkF m 104 #[.val (.int ja), .val (.int jb), .val (.int kk), .val (.int (7 : Int32)), .val (.ref b1), .val (.ref b3), .val (.ref b10), .unset] [(.ref b3), (.ref b10)])) rfl (by rw [hml]; rfl) (Steps.refl _) (argsL := [(.ref b3)]) (rest := []) (lenOf pd_11 rfl) rfl (by show 2 * 0 + _ ≤ _; exact Nat.le_of_eq rfl) (hb hby at_104) (fun _ _ => ⟨rfl, rfl, (by decide : 8 + 0 ≤ _), (by decide : 37 + 0 ≤ _)⟩)
  dsimp only [Pt.U, Pt.locs, Pt.cells, Pt.slots] at X21 l21 y21 z21 st21 hQ21
  subst l21 y21 z21
  obtain ⟨rfl, Nq21, Kp21, Fq21_0, Fq21_1, Fq21_2, Fq21_3, Fq21_4⟩ := hQ21
  have N21 := Fr.app N19 Nq21
  have f24 : Exa Z T21.heap b3 "com/example/sortition/sortition/Element" := (f22.keep Kp21)
  obtain ⟨cq23, kq23, q23a, q23b, q23c⟩ := isOf hZ5 rfl Fq21_0
  obtain ⟨_, _, ⟨T23, L23, k23, n23⟩, -, X23, ⟨Lc23, hQ23, l23, y23, z23⟩, st23⟩ := X21.virtualBack hx (y := (⟨"java/util/ArrayList", "add", "(Ljava/lang/Object;)Z"⟩ : MethodName)) (z := (⟨"java/util/ArrayList", "add", "(Ljava/lang/Object;)Z"⟩ : MethodName)) hown5 (mvT hZ5 (ow hw 73 rfl)) (mvT hZ5 (ow hw 74 rfl)) (notFace_of_selects (args := #[]) (mvT hZ5 (ow hw 76 rfl))) (mvT hZ5 (ow hw 76 rfl)) (mvT hZ5 (ow hw 75 rfl)) (by decide) (backOf (W := 0) (rmA4 l Z a0 hw [] b10 b3 nb_13 ka_13 (((((0 : Int32) + (1 : Int32)) + (1 : Int32)) + (1 : Int32)) + (1 : Int32)) T21.heap n0 (Nat.le_trans (Nat.le_trans (Nat.le_trans (Nat.le_trans (Nat.le_trans (Nat.le_trans (Nat.le_trans (Nat.le_trans (Nat.le_trans (Nat.le_trans (Nat.le_trans Z0 E1.1) Kp2.1) E3.1) E4.1) Kp5.1) E10.1) Kp11.1) Kp13.1) Kp17.1) Kp19.1) Kp21.1) Fq21_1 Fq21_0 Fq21_2 Fq21_3 Fq21_4 Pq13_0 f24 (Nat.le_trans (Nat.le_trans (Nat.le_trans (Nat.le_trans (Nat.le_trans (Nat.le_trans Z0 E1.1) Kp2.1) E3.1) E4.1) Kp5.1) (Nat.le_of_eq g10.symm)) (Ne.symm (Nat.ne_of_lt (Nat.lt_of_lt_of_le Fq11_0.lt gb13_0))) (Nat.le_trans (Nat.le_trans (Nat.le_trans (Nat.le_trans (Nat.le_trans (Nat.le_trans (Nat.le_trans (Nat.le_trans Z0 E1.1) Kp2.1) E3.1) E4.1) Kp5.1) E10.1) Kp11.1) gb13_0)) hZ5 (ow hw 77 rfl) (ow hw 51 rfl) (by decide) (by decide)) q23a q23c (g := (mkF m 117 #[.val (.int ja), .val (.int jb), .val (.int kk), .val (.int (7 : Int32)), .val (.ref b1), .val (.ref b3), .val (.ref b10), .unset] [(.ref b3), (.ref b10)])) rfl (by rw [hml]; rfl) (Steps.refl _) (argsL := [(.ref b3)]) (rest := []) (lenOf pd_11 rfl) rfl (by show 2 * 0 + _ ≤ _; exact Nat.le_of_eq rfl) (hb hby at_117) (fun _ _ => ⟨rfl, rfl, (by decide : 8 + 0 ≤ _), (by decide : 37 + 0 ≤ _)⟩)
  dsimp only [Pt.U, Pt.locs, Pt.cells, Pt.slots] at X23 l23 y23 z23 st23 hQ23
  subst l23 y23 z23
  obtain ⟨rfl, Nq23, Kp23, Fq23_0, Fq23_1, Fq23_2, Fq23_3, Fq23_4⟩ := hQ23
  have N23 := Fr.app N21 Nq23
  have f26 : Exa Z T23.heap b3 "com/example/sortition/sortition/Element" := (f24.keep Kp23)
  obtain ⟨cq25, kq25, q25a, q25b, q25c⟩ := isOf hZ5 rfl Fq23_0
  obtain ⟨_, _, ⟨T25, L25, k25, n25⟩, -, X25, ⟨Lc25, hQ25, l25, y25, z25⟩, st25⟩ := X23.virtualBack hx (y := (⟨"java/util/ArrayList", "add", "(Ljava/lang/Object;)Z"⟩ : MethodName)) (z := (⟨"java/util/ArrayList", "add", "(Ljava/lang/Object;)Z"⟩ : MethodName)) hown5 (mvT hZ5 (ow hw 73 rfl)) (mvT hZ5 (ow hw 74 rfl)) (notFace_of_selects (args := #[]) (mvT hZ5 (ow hw 76 rfl))) (mvT hZ5 (ow hw 76 rfl)) (mvT hZ5 (ow hw 75 rfl)) (by decide) (backOf (W := 0) (rmA5 l Z a0 hw [] b10 b3 nb_13 ka_13 ((((((0 : Int32) + (1 : Int32)) + (1 : Int32)) + (1 : Int32)) + (1 : Int32)) + (1 : Int32)) T23.heap n0 (Nat.le_trans (Nat.le_trans (Nat.le_trans (Nat.le_trans (Nat.le_trans (Nat.le_trans (Nat.le_trans (Nat.le_trans (Nat.le_trans (Nat.le_trans (Nat.le_trans (Nat.le_trans Z0 E1.1) Kp2.1) E3.1) E4.1) Kp5.1) E10.1) Kp11.1) Kp13.1) Kp17.1) Kp19.1) Kp21.1) Kp23.1) Fq23_1 Fq23_0 Fq23_2 Fq23_3 Fq23_4 Pq13_0 f26 (Nat.le_trans (Nat.le_trans (Nat.le_trans (Nat.le_trans (Nat.le_trans (Nat.le_trans Z0 E1.1) Kp2.1) E3.1) E4.1) Kp5.1) (Nat.le_of_eq g10.symm)) (Ne.symm (Nat.ne_of_lt (Nat.lt_of_lt_of_le Fq11_0.lt gb13_0))) (Nat.le_trans (Nat.le_trans (Nat.le_trans (Nat.le_trans (Nat.le_trans (Nat.le_trans (Nat.le_trans (Nat.le_trans Z0 E1.1) Kp2.1) E3.1) E4.1) Kp5.1) E10.1) Kp11.1) gb13_0)) hZ5 (ow hw 77 rfl) (ow hw 51 rfl) (by decide) (by decide)) q25a q25c (g := (mkF m 130 #[.val (.int ja), .val (.int jb), .val (.int kk), .val (.int (7 : Int32)), .val (.ref b1), .val (.ref b3), .val (.ref b10), .unset] [(.ref b3), (.ref b10)])) rfl (by rw [hml]; rfl) (Steps.refl _) (argsL := [(.ref b3)]) (rest := []) (lenOf pd_11 rfl) rfl (by show 2 * 0 + _ ≤ _; exact Nat.le_of_eq rfl) (hb hby at_130) (fun _ _ => ⟨rfl, rfl, (by decide : 8 + 0 ≤ _), (by decide : 37 + 0 ≤ _)⟩)
  dsimp only [Pt.U, Pt.locs, Pt.cells, Pt.slots] at X25 l25 y25 z25 st25 hQ25
  subst l25 y25 z25
  obtain ⟨rfl, Nq25, Kp25, Fq25_0, Fq25_1, Fq25_2, Fq25_3, Fq25_4⟩ := hQ25
  have N25 := Fr.app N23 Nq25
  have f28 : Exa Z T25.heap b3 "com/example/sortition/sortition/Element" := (f26.keep Kp25)
  obtain ⟨cq27, kq27, q27a, q27b, q27c⟩ := isOf hZ5 rfl Fq25_0
  obtain ⟨_, _, ⟨T27, L27, k27, n27⟩, -, X27, ⟨Lc27, hQ27, l27, y27, z27⟩, st27⟩ := X25.virtualBack hx (y := (⟨"java/util/ArrayList", "add", "(Ljava/lang/Object;)Z"⟩ : MethodName)) (z := (⟨"java/util/ArrayList", "add", "(Ljava/lang/Object;)Z"⟩ : MethodName)) hown5 (mvT hZ5 (ow hw 73 rfl)) (mvT hZ5 (ow hw 74 rfl)) (notFace_of_selects (args := #[]) (mvT hZ5 (ow hw 76 rfl))) (mvT hZ5 (ow hw 76 rfl)) (mvT hZ5 (ow hw 75 rfl)) (by decide) (backOf (W := 0) (rmA6 l Z a0 hw [] b10 b3 nb_13 ka_13 (((((((0 : Int32) + (1 : Int32)) + (1 : Int32)) + (1 : Int32)) + (1 : Int32)) + (1 : Int32)) + (1 : Int32)) T25.heap n0 (Nat.le_trans (Nat.le_trans (Nat.le_trans (Nat.le_trans (Nat.le_trans (Nat.le_trans (Nat.le_trans (Nat.le_trans (Nat.le_trans (Nat.le_trans (Nat.le_trans (Nat.le_trans (Nat.le_trans Z0 E1.1) Kp2.1) E3.1) E4.1) Kp5.1) E10.1) Kp11.1) Kp13.1) Kp17.1) Kp19.1) Kp21.1) Kp23.1) Kp25.1) Fq25_1 Fq25_0 Fq25_2 Fq25_3 Fq25_4 Pq13_0 f28 (Nat.le_trans (Nat.le_trans (Nat.le_trans (Nat.le_trans (Nat.le_trans (Nat.le_trans Z0 E1.1) Kp2.1) E3.1) E4.1) Kp5.1) (Nat.le_of_eq g10.symm)) (Ne.symm (Nat.ne_of_lt (Nat.lt_of_lt_of_le Fq11_0.lt gb13_0))) (Nat.le_trans (Nat.le_trans (Nat.le_trans (Nat.le_trans (Nat.le_trans (Nat.le_trans (Nat.le_trans (Nat.le_trans Z0 E1.1) Kp2.1) E3.1) E4.1) Kp5.1) E10.1) Kp11.1) gb13_0)) hZ5 (ow hw 77 rfl) (ow hw 51 rfl) (by decide) (by decide)) q27a q27c (g := (mkF m 144 #[.val (.int ja), .val (.int jb), .val (.int kk), .val (.int (7 : Int32)), .val (.ref b1), .val (.ref b3), .val (.ref b10), .unset] [(.ref b3), (.ref b10)])) rfl (by rw [hml]; rfl) (Steps.refl _) (argsL := [(.ref b3)]) (rest := []) (lenOf pd_11 rfl) rfl (by show 2 * 0 + _ ≤ _; exact Nat.le_of_eq rfl) (hb hby at_144) (fun _ _ => ⟨rfl, rfl, (by decide : 8 + 0 ≤ _), (by decide : 37 + 0 ≤ _)⟩)
  dsimp only [Pt.U, Pt.locs, Pt.cells, Pt.slots] at X27 l27 y27 z27 st27 hQ27
  subst l27 y27 z27
  obtain ⟨rfl, Nq27, Kp27, Fq27_0, Fq27_1, Fq27_2, Fq27_3, Fq27_4⟩ := hQ27
  have N27 := Fr.app N25 Nq27
  have f30 : Fld Z T27.heap b1 "com/example/sortition/sortition/Slots" "size" "I" (.int kk) := ((((((((((((Fq2_1.ext E3).ext E4).keep Kp5 (ninS (Nat.ne_of_lt (Nat.lt_of_lt_of_le Fq2_0.lt (Nat.le_of_eq g3.symm))) nin0)).ext E10).keep Kp11 (ninS (Nat.ne_of_lt (Nat.lt_of_lt_of_le (((Fq2_0.ext E3).ext E4).keep Kp5).lt (Nat.le_of_eq g10.symm))) nin0)).keep Kp13 (ninS (Nat.ne_of_lt (Nat.lt_of_lt_of_le (((Fq2_0.ext E3).ext E4).keep Kp5).lt (Nat.le_of_eq g10.symm))) nin0)).keep Kp17 (ninS (Nat.ne_of_lt (Nat.lt_of_lt_of_le (((Fq2_0.ext E3).ext E4).keep Kp5).lt (Nat.le_of_eq g10.symm))) (ninS (Nat.ne_of_lt (Nat.lt_of_lt_of_le (((((Fq2_0.ext E3).ext E4).keep Kp5).ext E10).keep Kp11).lt gb13_0)) nin0))).keep Kp19 (ninS (Nat.ne_of_lt (Nat.lt_of_lt_of_le (((Fq2_0.ext E3).ext E4).keep Kp5).lt (Nat.le_of_eq g10.symm))) (ninS (Nat.ne_of_lt (Nat.lt_of_lt_of_le (((((Fq2_0.ext E3).ext E4).keep Kp5).ext E10).keep Kp11).lt gb13_0)) nin0))).keep Kp21 (ninS (Nat.ne_of_lt (Nat.lt_of_lt_of_le (((Fq2_0.ext E3).ext E4).keep Kp5).lt (Nat.le_of_eq g10.symm))) (ninS (Nat.ne_of_lt (Nat.lt_of_lt_of_le (((((Fq2_0.ext E3).ext E4).keep Kp5).ext E10).keep Kp11).lt gb13_0)) nin0))).keep Kp23 (ninS (Nat.ne_of_lt (Nat.lt_of_lt_of_le (((Fq2_0.ext E3).ext E4).keep Kp5).lt (Nat.le_of_eq g10.symm))) (ninS (Nat.ne_of_lt (Nat.lt_of_lt_of_le (((((Fq2_0.ext E3).ext E4).keep Kp5).ext E10).keep Kp11).lt gb13_0)) nin0))).keep Kp25 (ninS (Nat.ne_of_lt (Nat.lt_of_lt_of_le (((Fq2_0.ext E3).ext E4).keep Kp5).lt (Nat.le_of_eq g10.symm))) (ninS (Nat.ne_of_lt (Nat.lt_of_lt_of_le (((((Fq2_0.ext E3).ext E4).keep Kp5).ext E10).keep Kp11).lt gb13_0)) nin0))).keep Kp27 (ninS (Nat.ne_of_lt (Nat.lt_of_lt_of_le (((Fq2_0.ext E3).ext E4).keep Kp5).lt (Nat.le_of_eq g10.symm))) (ninS (Nat.ne_of_lt (Nat.lt_of_lt_of_le (((((Fq2_0.ext E3).ext E4).keep Kp5).ext E10).keep Kp11).lt gb13_0)) nin0)))
  have f31 : Exa Z T27.heap b1 "com/example/sortition/sortition/Slots" := ((((((((((((Fq2_0.ext E3).ext E4).keep Kp5).ext E10).keep Kp11).keep Kp13).keep Kp17).keep Kp19).keep Kp21).keep Kp23).keep Kp25).keep Kp27)
  obtain ⟨cq29, kq29, q29a, q29b, q29c⟩ := isOf hZ5 rfl f31
  obtain ⟨_, _, ⟨T29, L29, k29, n29⟩, -, X29, ⟨Lc29, hQ29, l29, y29, z29⟩, st29⟩ := X27.virtualBack hx (y := (⟨"com/example/sortition/sortition/Slots", "allows", "(Ljava/util/List;)Z"⟩ : MethodName)) (z := (⟨"com/example/sortition/sortition/Slots", "allows", "(Ljava/util/List;)Z"⟩ : MethodName)) hown5 (mvT hZ5 (ow hw 104 rfl)) (mvT hZ5 (ow hw 105 rfl)) (notFace_of_selects (args := #[]) (mvT hZ5 (ow hw 107 rfl))) (mvT hZ5 (ow hw 107 rfl)) (mvT hZ5 (ow hw 106 rfl)) (by decide) (backOf (W := 0) (rmAW_f l Z a0 hw [] b1 b10 (7 : Int32) kk T27.heap n0 (Nat.le_trans (Nat.le_trans (Nat.le_trans (Nat.le_trans (Nat.le_trans (Nat.le_trans (Nat.le_trans (Nat.le_trans (Nat.le_trans (Nat.le_trans (Nat.le_trans (Nat.le_trans (Nat.le_trans (Nat.le_trans Z0 E1.1) Kp2.1) E3.1) E4.1) Kp5.1) E10.1) Kp11.1) Kp13.1) Kp17.1) Kp19.1) Kp21.1) Kp23.1) Kp25.1) Kp27.1) Fq27_0 Fq27_3 f30 hrd) hZ5 (ow hw 108 rfl) (ow hw 2 rfl) (by decide) (by decide)) q29a q29c (g := (mkF m 164 #[.val (.int ja), .val (.int jb), .val (.int kk), .val (.int (7 : Int32)), .val (.ref b1), .val (.ref b3), .val (.ref b10), .val (.int (1 : Int32))] [(.ref b10), (.ref b1)])) rfl (by rw [hml]; rfl) (Steps.refl _) (argsL := [(.ref b10)]) (rest := []) (lenOf pd_10 rfl) rfl (by show 2 * 0 + _ ≤ _; exact Nat.le_of_eq rfl) (hb hby at_164) (fun _ _ => ⟨rfl, rfl, (by decide : 8 + 0 ≤ _), (by decide : 37 + 0 ≤ _)⟩)
  dsimp only [Pt.U, Pt.locs, Pt.cells, Pt.slots] at X29 l29 y29 z29 st29 hQ29
  subst l29 y29 z29
  obtain ⟨rfl, Nq29, e29⟩ := hQ29
  have N29 := Fr.app N27 Nq29
  obtain ⟨fs, hr, hrun, hended, hRW⟩ := X29.leaveW (s := s) hS5 (by rw [e29]; exact (Nat.le_trans (Nat.le_trans (Nat.le_trans (Nat.le_trans (Nat.le_trans (Nat.le_trans (Nat.le_trans (Nat.le_trans (Nat.le_trans (Nat.le_refl _) E10.1) Kp11.1) Kp13.1) Kp17.1) Kp19.1) Kp21.1) Kp23.1) Kp25.1) Kp27.1)) (v := some (.int (1 : Int32))) (fun h => by rw [Bd.returns] at h; cases h)
  refine ⟨_, _, pre0 _ ?_, hrun, hended, _, _, rfl, ?_, hRW.1, hRW.2.1, hRW.2.2.1, hRW.2.2.2.mono (by decide) (by decide)⟩
  · show Steps p.tables e below (s₁.setTop (mkF m 0 #[.val (.int ja), .val (.int jb), .unset, .unset, .unset, .unset, .unset, .unset] [])) _
    refine stp _ ?_
    show Steps p.tables e below (s₁.setTop (mkF m 20 #[.val (.int ja), .val (.int jb), .val (.int kk), .unset, .unset, .unset, .unset, .unset] [])) _
    refine XS.iloadN X0.here hx rfl (hb hby at_20) rfl ?_
    show Steps p.tables e below (s₁.setTop (mkF m 21 #[.val (.int ja), .val (.int jb), .val (.int kk), .unset, .unset, .unset, .unset, .unset] [(.int jb)])) _
    refine XS.bipush X0.here hx rfl (hb hby at_21) ?_
    show Steps p.tables e below (s₁.setTop (mkF m 23 #[.val (.int ja), .val (.int jb), .val (.int kk), .unset, .unset, .unset, .unset, .unset] [(.int (7 : Int32)), (.int jb)])) _
    refine XS.iand X0.here hx rfl (hb hby at_23) rfl ?_
    show Steps p.tables e below (s₁.setTop (mkF m 24 #[.val (.int ja), .val (.int jb), .val (.int kk), .unset, .unset, .unset, .unset, .unset] [(.int (jb &&& (7 : Int32)))])) _
    rw [hn]
    show Steps p.tables e below (s₁.setTop (mkF m 24 #[.val (.int ja), .val (.int jb), .val (.int kk), .unset, .unset, .unset, .unset, .unset] [(.int (7 : Int32))])) _
    refine XS.istoreN X0.here hx rfl (hb hby at_24) rfl (l' := #[.val (.int ja), .val (.int jb), .val (.int kk), .val (.int (7 : Int32)), .unset, .unset, .unset, .unset]) rfl ?_
    show Steps p.tables e below (s₁.setTop (mkF m 25 #[.val (.int ja), .val (.int jb), .val (.int kk), .val (.int (7 : Int32)), .unset, .unset, .unset, .unset] [])) _
    refine st1 _ ?_
    show Steps p.tables e below (T1.setTop (mkF m 28 #[.val (.int ja), .val (.int jb), .val (.int kk), .val (.int (7 : Int32)), .unset, .unset, .unset, .unset] [(.ref b1)])) _
    refine XS.dup X1.here hx rfl (hb hby at_28) rfl rfl ?_
    show Steps p.tables e below (T1.setTop (mkF m 29 #[.val (.int ja), .val (.int jb), .val (.int kk), .val (.int (7 : Int32)), .unset, .unset, .unset, .unset] [(.ref b1), (.ref b1)])) _
    refine XS.iloadN X1.here hx rfl (hb hby at_29) rfl ?_
    show Steps p.tables e below (T1.setTop (mkF m 30 #[.val (.int ja), .val (.int jb), .val (.int kk), .val (.int (7 : Int32)), .unset, .unset, .unset, .unset] [(.int kk), (.ref b1), (.ref b1)])) _
    refine st2.trans ?_
    show Steps p.tables e below (T2.setTop (mkF m 33 #[.val (.int ja), .val (.int jb), .val (.int kk), .val (.int (7 : Int32)), .unset, .unset, .unset, .unset] [(.ref b1)])) _
    refine XS.astore X2.here hx rfl (hb hby at_33) rfl rfl (l' := #[.val (.int ja), .val (.int jb), .val (.int kk), .val (.int (7 : Int32)), .val (.ref b1), .unset, .unset, .unset]) rfl ?_
    show Steps p.tables e below (T2.setTop (mkF m 35 #[.val (.int ja), .val (.int jb), .val (.int kk), .val (.int (7 : Int32)), .val (.ref b1), .unset, .unset, .unset] [])) _
    refine st3 _ ?_
    show Steps p.tables e below (T3.setTop (mkF m 38 #[.val (.int ja), .val (.int jb), .val (.int kk), .val (.int (7 : Int32)), .val (.ref b1), .unset, .unset, .unset] [(.ref b3)])) _
    refine XS.dup X3.here hx rfl (hb hby at_38) rfl rfl ?_
    show Steps p.tables e below (T3.setTop (mkF m 39 #[.val (.int ja), .val (.int jb), .val (.int kk), .val (.int (7 : Int32)), .val (.ref b1), .unset, .unset, .unset] [(.ref b3), (.ref b3)])) _
    refine XS.iconst X3.here hx rfl (hb hby at_39) ?_
    show Steps p.tables e below (T3.setTop (mkF m 40 #[.val (.int ja), .val (.int jb), .val (.int kk), .val (.int (7 : Int32)), .val (.ref b1), .unset, .unset, .unset] [(.int (0 : Int32)), (.ref b3), (.ref b3)])) _
    refine st4 _ ?_
    show Steps p.tables e below (T4.setTop (mkF m 42 #[.val (.int ja), .val (.int jb), .val (.int kk), .val (.int (7 : Int32)), .val (.ref b1), .unset, .unset, .unset] [(.ref a4), (.int (0 : Int32)), (.ref b3), (.ref b3)])) _
    refine XS.dconst1 X4.here hx rfl (hb hby at_42) (v := 4607182418800017408) rfl ?_
    show Steps p.tables e below (T4.setTop (mkF m 43 #[.val (.int ja), .val (.int jb), .val (.int kk), .val (.int (7 : Int32)), .val (.ref b1), .unset, .unset, .unset] [(.double 4607182418800017408), (.ref a4), (.int (0 : Int32)), (.ref b3), (.ref b3)])) _
    refine st5.trans ?_
    show Steps p.tables e below (T5.setTop (mkF m 46 #[.val (.int ja), .val (.int jb), .val (.int kk), .val (.int (7 : Int32)), .val (.ref b1), .unset, .unset, .unset] [(.ref b3)])) _
    refine XS.astore X5.here hx rfl (hb hby at_46) rfl rfl (l' := #[.val (.int ja), .val (.int jb), .val (.int kk), .val (.int (7 : Int32)), .val (.ref b1), .val (.ref b3), .unset, .unset]) rfl ?_
    show Steps p.tables e below (T5.setTop (mkF m 48 #[.val (.int ja), .val (.int jb), .val (.int kk), .val (.int (7 : Int32)), .val (.ref b1), .val (.ref b3), .unset, .unset] [])) _
    refine st10 _ ?_
    show Steps p.tables e below (T10.setTop (mkF m 51 #[.val (.int ja), .val (.int jb), .val (.int kk), .val (.int (7 : Int32)), .val (.ref b1), .val (.ref b3), .unset, .unset] [(.ref b10)])) _
    refine XS.dup X10.here hx rfl (hb hby at_51) rfl rfl ?_
    show Steps p.tables e below (T10.setTop (mkF m 52 #[.val (.int ja), .val (.int jb), .val (.int kk), .val (.int (7 : Int32)), .val (.ref b1), .val (.ref b3), .unset, .unset] [(.ref b10), (.ref b10)])) _
    refine st11.trans ?_
    show Steps p.tables e below (T11.setTop (mkF m 55 #[.val (.int ja), .val (.int jb), .val (.int kk), .val (.int (7 : Int32)), .val (.ref b1), .val (.ref b3), .unset, .unset] [(.ref b10)])) _
    refine XS.astore X11.here hx rfl (hb hby at_55) rfl rfl (l' := #[.val (.int ja), .val (.int jb), .val (.int kk), .val (.int (7 : Int32)), .val (.ref b1), .val (.ref b3), .val (.ref b10), .unset]) rfl ?_
    show Steps p.tables e below (T11.setTop (mkF m 57 #[.val (.int ja), .val (.int jb), .val (.int kk), .val (.int (7 : Int32)), .val (.ref b1), .val (.ref b3), .val (.ref b10), .unset] [])) _
    refine XS.iloadN X11.here hx rfl (hb hby at_57) rfl ?_
    show Steps p.tables e below (T11.setTop (mkF m 58 #[.val (.int ja), .val (.int jb), .val (.int kk), .val (.int (7 : Int32)), .val (.ref b1), .val (.ref b3), .val (.ref b10), .unset] [(.int (7 : Int32))])) _
    refine XS.ifNo X11.here hx rfl (hb hby at_58) rfl ((if0 _ _).trans (tlt (by decide : (0 : Int32) < (7 : Int32))).2.2.2) ?_
    show Steps p.tables e below (T11.setTop (mkF m 61 #[.val (.int ja), .val (.int jb), .val (.int kk), .val (.int (7 : Int32)), .val (.ref b1), .val (.ref b3), .val (.ref b10), .unset] [])) _
    refine XS.aload X11.here hx rfl (hb hby at_61) rfl rfl ?_
    show Steps p.tables e below (T11.setTop (mkF m 63 #[.val (.int ja), .val (.int jb), .val (.int kk), .val (.int (7 : Int32)), .val (.ref b1), .val (.ref b3), .val (.ref b10), .unset] [(.ref b10)])) _
    refine XS.aload X11.here hx rfl (hb hby at_63) rfl rfl ?_
    show Steps p.tables e below (T11.setTop (mkF m 65 #[.val (.int ja), .val (.int jb), .val (.int kk), .val (.int (7 : Int32)), .val (.ref b1), .val (.ref b3), .val (.ref b10), .unset] [(.ref b3), (.ref b10)])) _
    refine st13.trans ?_
    show Steps p.tables e below (T13.setTop (mkF m 68 #[.val (.int ja), .val (.int jb), .val (.int kk), .val (.int (7 : Int32)), .val (.ref b1), .val (.ref b3), .val (.ref b10), .unset] [(.int (1 : Int32))])) _
    refine XS.pop X13.here hx rfl (hb hby at_68) rfl rfl ?_
    show Steps p.tables e below (T13.setTop (mkF m 69 #[.val (.int ja), .val (.int jb), .val (.int kk), .val (.int (7 : Int32)), .val (.ref b1), .val (.ref b3), .val (.ref b10), .unset] [])) _
    refine XS.iloadN X13.here hx rfl (hb hby at_69) rfl ?_
    show Steps p.tables e below (T13.setTop (mkF m 70 #[.val (.int ja), .val (.int jb), .val (.int kk), .val (.int (7 : Int32)), .val (.ref b1), .val (.ref b3), .val (.ref b10), .unset] [(.int (7 : Int32))])) _
    refine XS.iconst X13.here hx rfl (hb hby at_70) ?_
    show Steps p.tables e below (T13.setTop (mkF m 71 #[.val (.int ja), .val (.int jb), .val (.int kk), .val (.int (7 : Int32)), .val (.ref b1), .val (.ref b3), .val (.ref b10), .unset] [(.int (1 : Int32)), (.int (7 : Int32))])) _
    refine XS.icmpNo X13.here hx rfl (hb hby at_71) rfl (tlt (by decide : (1 : Int32) < (7 : Int32))).2.2.2 ?_
    show Steps p.tables e below (T13.setTop (mkF m 74 #[.val (.int ja), .val (.int jb), .val (.int kk), .val (.int (7 : Int32)), .val (.ref b1), .val (.ref b3), .val (.ref b10), .unset] [])) _
    refine XS.aload X13.here hx rfl (hb hby at_74) rfl rfl ?_
    show Steps p.tables e below (T13.setTop (mkF m 76 #[.val (.int ja), .val (.int jb), .val (.int kk), .val (.int (7 : Int32)), .val (.ref b1), .val (.ref b3), .val (.ref b10), .unset] [(.ref b10)])) _
    refine XS.aload X13.here hx rfl (hb hby at_76) rfl rfl ?_
    show Steps p.tables e below (T13.setTop (mkF m 78 #[.val (.int ja), .val (.int jb), .val (.int kk), .val (.int (7 : Int32)), .val (.ref b1), .val (.ref b3), .val (.ref b10), .unset] [(.ref b3), (.ref b10)])) _
    refine st17.trans ?_
    show Steps p.tables e below (T17.setTop (mkF m 81 #[.val (.int ja), .val (.int jb), .val (.int kk), .val (.int (7 : Int32)), .val (.ref b1), .val (.ref b3), .val (.ref b10), .unset] [(.int (1 : Int32))])) _
    refine XS.pop X17.here hx rfl (hb hby at_81) rfl rfl ?_
    show Steps p.tables e below (T17.setTop (mkF m 82 #[.val (.int ja), .val (.int jb), .val (.int kk), .val (.int (7 : Int32)), .val (.ref b1), .val (.ref b3), .val (.ref b10), .unset] [])) _
    refine XS.iloadN X17.here hx rfl (hb hby at_82) rfl ?_
    show Steps p.tables e below (T17.setTop (mkF m 83 #[.val (.int ja), .val (.int jb), .val (.int kk), .val (.int (7 : Int32)), .val (.ref b1), .val (.ref b3), .val (.ref b10), .unset] [(.int (7 : Int32))])) _
    refine XS.iconst X17.here hx rfl (hb hby at_83) ?_
    show Steps p.tables e below (T17.setTop (mkF m 84 #[.val (.int ja), .val (.int jb), .val (.int kk), .val (.int (7 : Int32)), .val (.ref b1), .val (.ref b3), .val (.ref b10), .unset] [(.int (2 : Int32)), (.int (7 : Int32))])) _
    refine XS.icmpNo X17.here hx rfl (hb hby at_84) rfl (tlt (by decide : (2 : Int32) < (7 : Int32))).2.2.2 ?_
    show Steps p.tables e below (T17.setTop (mkF m 87 #[.val (.int ja), .val (.int jb), .val (.int kk), .val (.int (7 : Int32)), .val (.ref b1), .val (.ref b3), .val (.ref b10), .unset] [])) _
    refine XS.aload X17.here hx rfl (hb hby at_87) rfl rfl ?_
    show Steps p.tables e below (T17.setTop (mkF m 89 #[.val (.int ja), .val (.int jb), .val (.int kk), .val (.int (7 : Int32)), .val (.ref b1), .val (.ref b3), .val (.ref b10), .unset] [(.ref b10)])) _
    refine XS.aload X17.here hx rfl (hb hby at_89) rfl rfl ?_
    show Steps p.tables e below (T17.setTop (mkF m 91 #[.val (.int ja), .val (.int jb), .val (.int kk), .val (.int (7 : Int32)), .val (.ref b1), .val (.ref b3), .val (.ref b10), .unset] [(.ref b3), (.ref b10)])) _
    refine st19.trans ?_
    show Steps p.tables e below (T19.setTop (mkF m 94 #[.val (.int ja), .val (.int jb), .val (.int kk), .val (.int (7 : Int32)), .val (.ref b1), .val (.ref b3), .val (.ref b10), .unset] [(.int (1 : Int32))])) _
    refine XS.pop X19.here hx rfl (hb hby at_94) rfl rfl ?_
    show Steps p.tables e below (T19.setTop (mkF m 95 #[.val (.int ja), .val (.int jb), .val (.int kk), .val (.int (7 : Int32)), .val (.ref b1), .val (.ref b3), .val (.ref b10), .unset] [])) _
    refine XS.iloadN X19.here hx rfl (hb hby at_95) rfl ?_
    show Steps p.tables e below (T19.setTop (mkF m 96 #[.val (.int ja), .val (.int jb), .val (.int kk), .val (.int (7 : Int32)), .val (.ref b1), .val (.ref b3), .val (.ref b10), .unset] [(.int (7 : Int32))])) _
    refine XS.iconst X19.here hx rfl (hb hby at_96) ?_
    show Steps p.tables e below (T19.setTop (mkF m 97 #[.val (.int ja), .val (.int jb), .val (.int kk), .val (.int (7 : Int32)), .val (.ref b1), .val (.ref b3), .val (.ref b10), .unset] [(.int (3 : Int32)), (.int (7 : Int32))])) _
    refine XS.icmpNo X19.here hx rfl (hb hby at_97) rfl (tlt (by decide : (3 : Int32) < (7 : Int32))).2.2.2 ?_
    show Steps p.tables e below (T19.setTop (mkF m 100 #[.val (.int ja), .val (.int jb), .val (.int kk), .val (.int (7 : Int32)), .val (.ref b1), .val (.ref b3), .val (.ref b10), .unset] [])) _
    refine XS.aload X19.here hx rfl (hb hby at_100) rfl rfl ?_
    show Steps p.tables e below (T19.setTop (mkF m 102 #[.val (.int ja), .val (.int jb), .val (.int kk), .val (.int (7 : Int32)), .val (.ref b1), .val (.ref b3), .val (.ref b10), .unset] [(.ref b10)])) _
    refine XS.aload X19.here hx rfl (hb hby at_102) rfl rfl ?_
    show Steps p.tables e below (T19.setTop (mkF m 104 #[.val (.int ja), .val (.int jb), .val (.int kk), .val (.int (7 : Int32)), .val (.ref b1), .val (.ref b3), .val (.ref b10), .unset] [(.ref b3), (.ref b10)])) _
    refine st21.trans ?_
    show Steps p.tables e below (T21.setTop (mkF m 107 #[.val (.int ja), .val (.int jb), .val (.int kk), .val (.int (7 : Int32)), .val (.ref b1), .val (.ref b3), .val (.ref b10), .unset] [(.int (1 : Int32))])) _
    refine XS.pop X21.here hx rfl (hb hby at_107) rfl rfl ?_
    show Steps p.tables e below (T21.setTop (mkF m 108 #[.val (.int ja), .val (.int jb), .val (.int kk), .val (.int (7 : Int32)), .val (.ref b1), .val (.ref b3), .val (.ref b10), .unset] [])) _
    refine XS.iloadN X21.here hx rfl (hb hby at_108) rfl ?_
    show Steps p.tables e below (T21.setTop (mkF m 109 #[.val (.int ja), .val (.int jb), .val (.int kk), .val (.int (7 : Int32)), .val (.ref b1), .val (.ref b3), .val (.ref b10), .unset] [(.int (7 : Int32))])) _
    refine XS.iconst X21.here hx rfl (hb hby at_109) ?_
    show Steps p.tables e below (T21.setTop (mkF m 110 #[.val (.int ja), .val (.int jb), .val (.int kk), .val (.int (7 : Int32)), .val (.ref b1), .val (.ref b3), .val (.ref b10), .unset] [(.int (4 : Int32)), (.int (7 : Int32))])) _
    refine XS.icmpNo X21.here hx rfl (hb hby at_110) rfl (tlt (by decide : (4 : Int32) < (7 : Int32))).2.2.2 ?_
    show Steps p.tables e below (T21.setTop (mkF m 113 #[.val (.int ja), .val (.int jb), .val (.int kk), .val (.int (7 : Int32)), .val (.ref b1), .val (.ref b3), .val (.ref b10), .unset] [])) _
    refine XS.aload X21.here hx rfl (hb hby at_113) rfl rfl ?_
    show Steps p.tables e below (T21.setTop (mkF m 115 #[.val (.int ja), .val (.int jb), .val (.int kk), .val (.int (7 : Int32)), .val (.ref b1), .val (.ref b3), .val (.ref b10), .unset] [(.ref b10)])) _
    refine XS.aload X21.here hx rfl (hb hby at_115) rfl rfl ?_
    show Steps p.tables e below (T21.setTop (mkF m 117 #[.val (.int ja), .val (.int jb), .val (.int kk), .val (.int (7 : Int32)), .val (.ref b1), .val (.ref b3), .val (.ref b10), .unset] [(.ref b3), (.ref b10)])) _
    refine st23.trans ?_
    show Steps p.tables e below (T23.setTop (mkF m 120 #[.val (.int ja), .val (.int jb), .val (.int kk), .val (.int (7 : Int32)), .val (.ref b1), .val (.ref b3), .val (.ref b10), .unset] [(.int (1 : Int32))])) _
    refine XS.pop X23.here hx rfl (hb hby at_120) rfl rfl ?_
    show Steps p.tables e below (T23.setTop (mkF m 121 #[.val (.int ja), .val (.int jb), .val (.int kk), .val (.int (7 : Int32)), .val (.ref b1), .val (.ref b3), .val (.ref b10), .unset] [])) _
    refine XS.iloadN X23.here hx rfl (hb hby at_121) rfl ?_
    show Steps p.tables e below (T23.setTop (mkF m 122 #[.val (.int ja), .val (.int jb), .val (.int kk), .val (.int (7 : Int32)), .val (.ref b1), .val (.ref b3), .val (.ref b10), .unset] [(.int (7 : Int32))])) _
    refine XS.iconst X23.here hx rfl (hb hby at_122) ?_
    show Steps p.tables e below (T23.setTop (mkF m 123 #[.val (.int ja), .val (.int jb), .val (.int kk), .val (.int (7 : Int32)), .val (.ref b1), .val (.ref b3), .val (.ref b10), .unset] [(.int (5 : Int32)), (.int (7 : Int32))])) _
    refine XS.icmpNo X23.here hx rfl (hb hby at_123) rfl (tlt (by decide : (5 : Int32) < (7 : Int32))).2.2.2 ?_
    show Steps p.tables e below (T23.setTop (mkF m 126 #[.val (.int ja), .val (.int jb), .val (.int kk), .val (.int (7 : Int32)), .val (.ref b1), .val (.ref b3), .val (.ref b10), .unset] [])) _
    refine XS.aload X23.here hx rfl (hb hby at_126) rfl rfl ?_
    show Steps p.tables e below (T23.setTop (mkF m 128 #[.val (.int ja), .val (.int jb), .val (.int kk), .val (.int (7 : Int32)), .val (.ref b1), .val (.ref b3), .val (.ref b10), .unset] [(.ref b10)])) _
    refine XS.aload X23.here hx rfl (hb hby at_128) rfl rfl ?_
    show Steps p.tables e below (T23.setTop (mkF m 130 #[.val (.int ja), .val (.int jb), .val (.int kk), .val (.int (7 : Int32)), .val (.ref b1), .val (.ref b3), .val (.ref b10), .unset] [(.ref b3), (.ref b10)])) _
    refine st25.trans ?_
    show Steps p.tables e below (T25.setTop (mkF m 133 #[.val (.int ja), .val (.int jb), .val (.int kk), .val (.int (7 : Int32)), .val (.ref b1), .val (.ref b3), .val (.ref b10), .unset] [(.int (1 : Int32))])) _
    refine XS.pop X25.here hx rfl (hb hby at_133) rfl rfl ?_
    show Steps p.tables e below (T25.setTop (mkF m 134 #[.val (.int ja), .val (.int jb), .val (.int kk), .val (.int (7 : Int32)), .val (.ref b1), .val (.ref b3), .val (.ref b10), .unset] [])) _
    refine XS.iloadN X25.here hx rfl (hb hby at_134) rfl ?_
    show Steps p.tables e below (T25.setTop (mkF m 135 #[.val (.int ja), .val (.int jb), .val (.int kk), .val (.int (7 : Int32)), .val (.ref b1), .val (.ref b3), .val (.ref b10), .unset] [(.int (7 : Int32))])) _
    refine XS.bipush X25.here hx rfl (hb hby at_135) ?_
    show Steps p.tables e below (T25.setTop (mkF m 137 #[.val (.int ja), .val (.int jb), .val (.int kk), .val (.int (7 : Int32)), .val (.ref b1), .val (.ref b3), .val (.ref b10), .unset] [(.int (6 : Int32)), (.int (7 : Int32))])) _
    refine XS.icmpNo X25.here hx rfl (hb hby at_137) rfl (tlt (by decide : (6 : Int32) < (7 : Int32))).2.2.2 ?_
    show Steps p.tables e below (T25.setTop (mkF m 140 #[.val (.int ja), .val (.int jb), .val (.int kk), .val (.int (7 : Int32)), .val (.ref b1), .val (.ref b3), .val (.ref b10), .unset] [])) _
    refine XS.aload X25.here hx rfl (hb hby at_140) rfl rfl ?_
    show Steps p.tables e below (T25.setTop (mkF m 142 #[.val (.int ja), .val (.int jb), .val (.int kk), .val (.int (7 : Int32)), .val (.ref b1), .val (.ref b3), .val (.ref b10), .unset] [(.ref b10)])) _
    refine XS.aload X25.here hx rfl (hb hby at_142) rfl rfl ?_
    show Steps p.tables e below (T25.setTop (mkF m 144 #[.val (.int ja), .val (.int jb), .val (.int kk), .val (.int (7 : Int32)), .val (.ref b1), .val (.ref b3), .val (.ref b10), .unset] [(.ref b3), (.ref b10)])) _
    refine st27.trans ?_
    show Steps p.tables e below (T27.setTop (mkF m 147 #[.val (.int ja), .val (.int jb), .val (.int kk), .val (.int (7 : Int32)), .val (.ref b1), .val (.ref b3), .val (.ref b10), .unset] [(.int (1 : Int32))])) _
    refine XS.pop X27.here hx rfl (hb hby at_147) rfl rfl ?_
    show Steps p.tables e below (T27.setTop (mkF m 148 #[.val (.int ja), .val (.int jb), .val (.int kk), .val (.int (7 : Int32)), .val (.ref b1), .val (.ref b3), .val (.ref b10), .unset] [])) _
    refine XS.iloadN X27.here hx rfl (hb hby at_148) rfl ?_
    show Steps p.tables e below (T27.setTop (mkF m 149 #[.val (.int ja), .val (.int jb), .val (.int kk), .val (.int (7 : Int32)), .val (.ref b1), .val (.ref b3), .val (.ref b10), .unset] [(.int (7 : Int32))])) _
    refine XS.iloadN X27.here hx rfl (hb hby at_149) rfl ?_
    show Steps p.tables e below (T27.setTop (mkF m 150 #[.val (.int ja), .val (.int jb), .val (.int kk), .val (.int (7 : Int32)), .val (.ref b1), .val (.ref b3), .val (.ref b10), .unset] [(.int kk), (.int (7 : Int32))])) _
    refine XS.icmpNo X27.here hx rfl (hb hby at_150) rfl (flt hrd).2.2.1 ?_
    show Steps p.tables e below (T27.setTop (mkF m 153 #[.val (.int ja), .val (.int jb), .val (.int kk), .val (.int (7 : Int32)), .val (.ref b1), .val (.ref b3), .val (.ref b10), .unset] [])) _
    refine XS.iconst X27.here hx rfl (hb hby at_153) ?_
    show Steps p.tables e below (T27.setTop (mkF m 154 #[.val (.int ja), .val (.int jb), .val (.int kk), .val (.int (7 : Int32)), .val (.ref b1), .val (.ref b3), .val (.ref b10), .unset] [(.int (1 : Int32))])) _
    refine XS.goto X27.here hx rfl (pc0 := 154) (pc' := 158) rfl (hb hby at_154) (by decide) (by decide) ?_
    show Steps p.tables e below (T27.setTop (mkF m 158 #[.val (.int ja), .val (.int jb), .val (.int kk), .val (.int (7 : Int32)), .val (.ref b1), .val (.ref b3), .val (.ref b10), .unset] [(.int (1 : Int32))])) _
    refine XS.istore X27.here hx rfl (hb hby at_158) rfl (l' := #[.val (.int ja), .val (.int jb), .val (.int kk), .val (.int (7 : Int32)), .val (.ref b1), .val (.ref b3), .val (.ref b10), .val (.int (1 : Int32))]) rfl ?_
    show Steps p.tables e below (T27.setTop (mkF m 160 #[.val (.int ja), .val (.int jb), .val (.int kk), .val (.int (7 : Int32)), .val (.ref b1), .val (.ref b3), .val (.ref b10), .val (.int (1 : Int32))] [])) _
    refine XS.aload X27.here hx rfl (hb hby at_160) rfl rfl ?_
    show Steps p.tables e below (T27.setTop (mkF m 162 #[.val (.int ja), .val (.int jb), .val (.int kk), .val (.int (7 : Int32)), .val (.ref b1), .val (.ref b3), .val (.ref b10), .val (.int (1 : Int32))] [(.ref b1)])) _
    refine XS.aload X27.here hx rfl (hb hby at_162) rfl rfl ?_
    show Steps p.tables e below (T27.setTop (mkF m 164 #[.val (.int ja), .val (.int jb), .val (.int kk), .val (.int (7 : Int32)), .val (.ref b1), .val (.ref b3), .val (.ref b10), .val (.int (1 : Int32))] [(.ref b10), (.ref b1)])) _
    refine st29.trans ?_
    show Steps p.tables e below (T29.setTop (mkF m 167 #[.val (.int ja), .val (.int jb), .val (.int kk), .val (.int (7 : Int32)), .val (.ref b1), .val (.ref b3), .val (.ref b10), .val (.int (1 : Int32))] [(.int (1 : Int32))])) _
    refine XS.iload X29.here hx rfl (hb hby at_167) rfl ?_
    show Steps p.tables e below (T29.setTop (mkF m 169 #[.val (.int ja), .val (.int jb), .val (.int kk), .val (.int (7 : Int32)), .val (.ref b1), .val (.ref b3), .val (.ref b10), .val (.int (1 : Int32))] [(.int (1 : Int32)), (.int (1 : Int32))])) _
    refine XS.icmpNo X29.here hx rfl (hb hby at_169) rfl (teq (rfl : (1 : Int32) = (1 : Int32))).2 ?_
    show Steps p.tables e below (T29.setTop (mkF m 172 #[.val (.int ja), .val (.int jb), .val (.int kk), .val (.int (7 : Int32)), .val (.ref b1), .val (.ref b3), .val (.ref b10), .val (.int (1 : Int32))] [])) _
    refine XS.iconst X29.here hx rfl (hb hby at_172) ?_
    show Steps p.tables e below (T29.setTop (mkF m 173 #[.val (.int ja), .val (.int jb), .val (.int kk), .val (.int (7 : Int32)), .val (.ref b1), .val (.ref b3), .val (.ref b10), .val (.int (1 : Int32))] [(.int (1 : Int32))])) _
    refine XS.goto X29.here hx rfl (pc0 := 173) (pc' := 177) rfl (hb hby at_173) (by decide) (by decide) ?_
    show Steps p.tables e below (T29.setTop (mkF m 177 #[.val (.int ja), .val (.int jb), .val (.int kk), .val (.int (7 : Int32)), .val (.ref b1), .val (.ref b3), .val (.ref b10), .val (.int (1 : Int32))] [(.int (1 : Int32))])) _
    exact retN X29 hx (t := .boolean) Bd.returns (by simp) (hb hby at_177) hr
  · show Q_rm0_7f Z ja jb kk de kd h0 n0 _ T29.heap _
    rw [e29]
    exact ⟨rfl, N29⟩
set_option maxRecDepth 65536 in
set_option maxHeartbeats 40000000 in
theorem rm0 (l : Launch) (Z : State) (a0 : Array Value) (hw : ∀ d ∈ tables_1, d.before a0 Z = true) (ws : List Jvm.Cond) (ja jb : Int32) (de : Addr) (kd : ClassId) (h0 : Heap) (n0 : Nat) (Z0 : n0 ≤ h0.size) (hwS : ∀ a ∈ Bundle.stringAtoms, a.before a0 Z = true) (hn0 : n0 = h0.size) (hcn : Jvm.Lit.constHeld Z "com/example/sortition/sortition/SlotsAllowsPinLaw" 15) (hcw : Jvm.Lit.compactW.before a0 Z = true) (S_DE : Sta Z h0 "java/util/ArrayList" "DEFAULTCAPACITY_EMPTY_ELEMENTDATA" "[Ljava/lang/Object;" (.ref de)) (V_de : Arv Z h0 de kd (.object "java/lang/Object") (0 : Int32) [] .null) :
    MetFree l x (head1 (Jvm.Cond.code x code maxLocals ret :: ws) room_1) (fun a U => a = #[(.int ja), (.int jb)] ∧ Z.Warmed39 U.vm ∧ U.heap = h0 ∧ U.vm.interned = Z.vm.interned ∧ (∀ (b : Addr) (cl : Cell), Z.heap[b]? = some cl → U.heap[b]? = some cl)) (fun _ _ _ _ _ => True) (fun _ U o U' => ∃ v L, o = .returned v ∧ (v = some (.int (1 : Int32)) ∧ Fr n0 L) ∧ ReturnedEndW U o U' L room_1.cells room_1.slots) := by
  rcases own_cases jb with hn | hn | hn | hn | hn | hn | hn | hn
  · by_cases hr : own_k ja jb < (0 : Int32)
    · exact rm0_0t l Z a0 hw ws ja jb _ de kd h0 n0 Z0 hwS hn0 hcn hcw S_DE V_de rfl (own_k_ge _ _) hn hr
    · exact rm0_0f l Z a0 hw ws ja jb _ de kd h0 n0 Z0 hwS hn0 hcn hcw S_DE V_de rfl (own_k_ge _ _) hn hr
  · by_cases hr : own_k ja jb < (1 : Int32)
    · exact rm0_1t l Z a0 hw ws ja jb _ de kd h0 n0 Z0 hwS hn0 hcn hcw S_DE V_de rfl (own_k_ge _ _) hn hr
    · exact rm0_1f l Z a0 hw ws ja jb _ de kd h0 n0 Z0 hwS hn0 hcn hcw S_DE V_de rfl (own_k_ge _ _) hn hr
  · by_cases hr : own_k ja jb < (2 : Int32)
    · exact rm0_2t l Z a0 hw ws ja jb _ de kd h0 n0 Z0 hwS hn0 hcn hcw S_DE V_de rfl (own_k_ge _ _) hn hr
    · exact rm0_2f l Z a0 hw ws ja jb _ de kd h0 n0 Z0 hwS hn0 hcn hcw S_DE V_de rfl (own_k_ge _ _) hn hr
  · by_cases hr : own_k ja jb < (3 : Int32)
    · exact rm0_3t l Z a0 hw ws ja jb _ de kd h0 n0 Z0 hwS hn0 hcn hcw S_DE V_de rfl (own_k_ge _ _) hn hr
    · exact rm0_3f l Z a0 hw ws ja jb _ de kd h0 n0 Z0 hwS hn0 hcn hcw S_DE V_de rfl (own_k_ge _ _) hn hr
  · by_cases hr : own_k ja jb < (4 : Int32)
    · exact rm0_4t l Z a0 hw ws ja jb _ de kd h0 n0 Z0 hwS hn0 hcn hcw S_DE V_de rfl (own_k_ge _ _) hn hr
    · exact rm0_4f l Z a0 hw ws ja jb _ de kd h0 n0 Z0 hwS hn0 hcn hcw S_DE V_de rfl (own_k_ge _ _) hn hr
  · by_cases hr : own_k ja jb < (5 : Int32)
    · exact rm0_5t l Z a0 hw ws ja jb _ de kd h0 n0 Z0 hwS hn0 hcn hcw S_DE V_de rfl (own_k_ge _ _) hn hr
    · exact rm0_5f l Z a0 hw ws ja jb _ de kd h0 n0 Z0 hwS hn0 hcn hcw S_DE V_de rfl (own_k_ge _ _) hn hr
  · by_cases hr : own_k ja jb < (6 : Int32)
    · exact rm0_6t l Z a0 hw ws ja jb _ de kd h0 n0 Z0 hwS hn0 hcn hcw S_DE V_de rfl (own_k_ge _ _) hn hr
    · exact rm0_6f l Z a0 hw ws ja jb _ de kd h0 n0 Z0 hwS hn0 hcn hcw S_DE V_de rfl (own_k_ge _ _) hn hr
  · by_cases hr : own_k ja jb < (7 : Int32)
    · exact rm0_7t l Z a0 hw ws ja jb _ de kd h0 n0 Z0 hwS hn0 hcn hcw S_DE V_de rfl (own_k_ge _ _) hn hr
    · exact rm0_7f l Z a0 hw ws ja jb _ de kd h0 n0 Z0 hwS hn0 hcn hcw S_DE V_de rfl (own_k_ge _ _) hn hr
set_option maxRecDepth 65536 in
set_option maxHeartbeats 40000000 in
theorem comes_1 {Post : Tables → Env → Array Value → State → Outcome → State → Prop} (hpost : ∀ tb e args s v u, (limb_1_1.after args s (.returned v) u = true ∧ limb_1_2.after args s (.returned v) u = true ∧ True) → ReturnedEndW s (.returned v) u (Jvm.fieldLocs frame_1_writes args s ++ Jvm.arrayLocs frame_1_arrays args s ++ Jvm.staticLocs frame_1_statics s) 24 2176 → Post tb e args s (.returned v) u) :
    ArmFor flags0 classFile x code maxLocals ret World_1 tables_1 room_1 Calls_1 rest_1 Pre_1 Post := by
  intro l hfl _ _ p e ha hc hk s m args below hf hA hF happ hP
  obtain ⟨hcalls, hrest, hpre⟩ := hP
  obtain ⟨-, -, -, hnamed, -, -, -, hat⟩ := (Spec.applies_iff hf).mp happ
  obtain ⟨hg, hn⟩ := and_e (Cond.before_iff.mp (show (Jvm.Cond.and given_1 narrow_1).before args s = true from hpre))
  obtain ⟨hc0, hr0⟩ := and_e hg
  obtain ⟨hv0, hr1⟩ := and_e hr0
  have hv1 := hr1
  obtain ⟨w0, w1, rfl⟩ : ∃ w0 w1 : Value, args = #[w0, w1] := by
    have hs : args.size = 2 := by simpa [Cond.value, given_1] using hc0
    obtain ⟨L⟩ := args
    match L, hs with
    | [w0, w1], _ => exact ⟨w0, w1, rfl⟩
  have hw := fun d (hd : d ∈ tables_1) => atoms_spec (ws := Jvm.Cond.code x code maxLocals ret :: tables_1) hat d (List.mem_cons_of_mem _ hd)
  have hfit : Fit s := fun {y c} hc i hi => by
    obtain ⟨ha, rfl⟩ := Array.getElem?_eq_some_iff.mp hc
    have q := List.all_eq_true.mp ((Array.all_eq_true_iff_forall_mem.mp hF) _ (Array.getElem_mem ha)) i (List.mem_range.mpr hi)
    simpa [Array.getElem?_eq_getElem hi] using q
  obtain ⟨hsets, hown0⟩ := atoms_of _ (rest_1_c_eq ▸ (show rest_1_c.before _ s = true from hrest))
  have n9 := not_v (Cond.before_iff.mp (hsets _ (List.mem_of_getElem? (i := 11) rfl)))
  obtain ⟨i9, e9⟩ := is_v (Cond.before_iff.mp (hsets _ (List.mem_of_getElem? (i := 10) rfl)))
  have S0 : Sta s s.heap "java/lang/String" "COMPACT_STRINGS" "Z" (.int i9) := Sta.start e9 (Or.inl (hsets _ (List.mem_of_getElem? (i := 9) rfl)))
  have c9 : ¬ (i9 = (0 : Int32)) := gotF (Cond.eq_ints e9 (Term.int_eval (0))) n9
  obtain ⟨de, kd, ede, V_de⟩ := own_de (dv := .null) hfit (hsets _ (List.mem_of_getElem? (i := 6) rfl)) (hsets _ (List.mem_of_getElem? (i := 8) rfl))
  have S_DE := Sta.start ede (Or.inr ⟨hw _ (List.mem_of_getElem? (i := 51) rfl), hsets _ (List.mem_of_getElem? (i := 2) rfl)⟩)
  have hcn : Jvm.Lit.constHeld s "com/example/sortition/sortition/SlotsAllowsPinLaw" 15 := hcalls.1 ("com/example/sortition/sortition/SlotsAllowsPinLaw", 15) (List.mem_of_getElem? (i := 1) rfl)
  have hcw := hsets _ (List.mem_of_getElem? (i := 11) rfl)
  obtain ⟨i0, ei0⟩ := is_v hv0
  obtain rfl : w0 = (.int i0) := Option.some.inj ei0
  obtain ⟨i1, ei1⟩ := is_v hv1
  obtain rfl : w1 = (.int i1) := Option.some.inj ei1
  obtain ⟨n, o, h1, h2, h3, _, L, rfl, ⟨rfl, N⟩, hq⟩ := rm0 l s _ hw tables_1 i0 i1 de kd s.heap s.heap.size (Nat.le_refl _) (own_hwS hw) rfl hcn hcw S_DE V_de p e ha hc hk s m _ below hf ((Spec.applies_iff_loose hf).mp happ).1 ⟨rfl, State.Warmed39.refl s, rfl, rfl, fun _ _ q => q⟩ trivial
  refine ⟨n, _, h1, h2, h3, hpost _ _ _ _ _ _ ⟨Cond.after_iff.mpr rfl, Cond.after_iff.mpr (eq_i res_at (Term.int_eval (1)) rfl), trivial⟩ ⟨hq.1, hq.2.1, hq.2.2.1, (hq.2.2.2.sift fun y hy => Or.inr (N y hy)).mono (by decide) (by decide)⟩⟩
theorem main_1_1 : Claimed_1_1 := comes_1 fun _ _ _ _ _ _ h hF => ⟨h.1, hF⟩
theorem main_1_2 : Claimed_1_2 := comes_1 fun _ _ _ _ _ _ h hF => ⟨h.2.1, hF⟩
end Jvm.Pilot.@@N@@
namespace Jvm.Pilot.@@N@@
open Jvm Jvm.ClassFile Sem Op Lib Jvm.Free Jvm.Stand Jvm.Pilot.@@N@@.Jvm.D
/-! MADE BY PROGRAM (witnessworld.py) out of the Statement's table words and the real class files: 32 classes; the members and pool entries that the words name. The judged class is class 1, her method 1. -/
namespace start1
open Jvm.ClassFile
def u (s : String) : CpInfo := .utf8 (stringToUtf16 s)
/-- a pool by its gaps: so many unusable entries, then the entry; so many at the end -/
def gap : Nat → List CpInfo → List CpInfo
  | 0, r => r
  | n + 1, r => .unusable :: gap n r
def poolList (es : List (Nat × CpInfo)) (last : Nat) : List CpInfo := es.foldr (fun e r => gap e.1 (e.2 :: r)) (gap last [])
def pool (es : List (Nat × CpInfo)) (last : Nat) : Array CpInfo := ⟨poolList es last⟩
def fileOf (pool : Array CpInfo) (this : Nat) (attrs : Array Attribute := #[]) (ms : Array MethodInfo := #[]) (fl : Nat := 33) (sup : Nat := 0) (ifs : Array Nat := #[]) (fds : Array FieldInfo := #[]) : ClassFile where
  minorVersion := 0
  majorVersion := 65
  constantPool := pool
  accessFlags := fl
  thisClass := this
  superClass := sup
  interfaces := ifs
  fields := fds
  methods := ms
  attributes := attrs
def plain (name : String) (sup : Option ClassId) : Class where
  name := name
  kind := .ordinary
  loader := none
  accessFlags := 33
  super := sup
  interfaces := #[]
  cf := none
  fields := #[]
  methods := #[]
  instanceTypes := #[]
  staticTypes := #[]
  resolved := #[]
  callSites := []
  init := .initialized
  statics := none
  mirror := none

def pool0 : Array CpInfo := pool [(5, u "<init>"), (0, u "()V"), (1, .class_ 10), (1, u "java/lang/Object")] 113

def k0c0 : Code := { maxStack := 0, maxLocals := 1, code := object_method_1_code, exceptionTable := #[], attributes := #[] }
def k0m0 : Method := { name := "<init>", desc := "()V", sig := { parameters := [], returnType := none }, accessFlags := 1, code := some k0c0 }
/-- java/lang/Object -/
def k0 : Class := { plain "java/lang/Object" none with
  accessFlags := 33
  interfaces := #[]
  cf := some (fileOf pool0 8 #[] #[{ accessFlags := 1, nameIndex := 5, descriptorIndex := 6, attributes := #[] }] 33 0 #[] #[])
  fields := #[]
  methods := #[k0m0]
  instanceTypes := #[]
  staticTypes := #[]
  resolved := Array.replicate 124 none
  statics := none }

def pool1 : Array CpInfo := pool [(2, .class_ 4), (0, .nameAndType 5 6), (0, u "java/lang/Object"), (0, u "<init>"), (0, u "()V"), (0, .integer 2147483647), (0, .class_ 9), (0, u "com/example/sortition/sortition/Slots"), (0, .methodref 8 11), (0, .nameAndType 5 12), (0, u "(I)V"), (0, .class_ 14), (0, u "com/example/sortition/sortition/Element"), (0, .string 16), (0, u "x"), (0, .methodref 13 18), (0, .nameAndType 5 19), (0, u "(ILjava/lang/String;D)V"), (0, .class_ 21), (0, u "java/util/ArrayList"), (0, .methodref 20 3), (0, .methodref 20 24), (0, .nameAndType 25 26), (0, u "add"), (0, u "(Ljava/lang/Object;)Z"), (0, .methodref 8 28), (0, .nameAndType 29 30), (0, u "allows"), (0, u "(Ljava/util/List;)Z"), (0, .class_ 32), (0, u "com/example/sortition/sortition/SlotsAllowsPinLaw"), (2, u "law"), (0, u "(II)Z")] 3

def k1m0 : Method := { name := "<init>", desc := "()V", sig := { parameters := [], returnType := none }, accessFlags := 1, code := none }
def k1c1 : Code := { maxStack := 6, maxLocals := 8, code := code, exceptionTable := #[], attributes := #[] }
def k1m1 : Method := { name := "law", desc := "(II)Z", sig := { parameters := [.int, .int], returnType := some .boolean }, accessFlags := 9, code := some k1c1 }
/-- com/example/sortition/sortition/SlotsAllowsPinLaw -/
def k1 : Class := { plain "com/example/sortition/sortition/SlotsAllowsPinLaw" (some 0) with
  accessFlags := 49
  interfaces := #[]
  cf := some (fileOf pool1 31 #[] #[{ accessFlags := 1, nameIndex := 5, descriptorIndex := 6, attributes := #[] }, { accessFlags := 9, nameIndex := 35, descriptorIndex := 36, attributes := #[] }] 49 2 #[] #[])
  fields := #[]
  methods := #[k1m0, k1m1]
  instanceTypes := #[]
  staticTypes := #[]
  resolved := Array.replicate 40 none
  statics := none }

def pool2 : Array CpInfo := pool [(1, .methodref 2 3), (0, .class_ 4), (0, .nameAndType 5 6), (0, u "java/lang/Object"), (0, u "<init>"), (0, u "()V"), (0, .class_ 8), (0, u "java/lang/Record")] 13

def k2c0 : Code := { maxStack := 1, maxLocals := 1, code := jdk_30_method_1_code, exceptionTable := #[], attributes := #[] }
def k2m0 : Method := { name := "<init>", desc := "()V", sig := { parameters := [], returnType := none }, accessFlags := 4, code := some k2c0 }
/-- java/lang/Record -/
def k2 : Class := { plain "java/lang/Record" (some 0) with
  accessFlags := 1057
  interfaces := #[]
  cf := some (fileOf pool2 7 #[] #[{ accessFlags := 4, nameIndex := 5, descriptorIndex := 6, attributes := #[] }] 1057 2 #[] #[])
  fields := #[]
  methods := #[k2m0]
  instanceTypes := #[]
  staticTypes := #[]
  resolved := Array.replicate 22 none
  statics := none }

def pool3 : Array CpInfo := pool [(7, .class_ 8), (0, u "com/example/sortition/sortition/Constraint$1"), (4, .class_ 15), (1, u "com/example/sortition/sortition/Constraint"), (49, .class_ 66), (0, u "java/lang/Object")] 38

/-- com/example/sortition/sortition/Constraint -/
def k3 : Class := { plain "com/example/sortition/sortition/Constraint" (some 0) with
  accessFlags := 1537
  interfaces := #[]
  cf := some (fileOf pool3 13 #[.nestMembers #[7]] #[] 1537 65 #[] #[])
  fields := #[]
  methods := #[]
  instanceTypes := #[]
  staticTypes := #[]
  resolved := Array.replicate 105 none
  statics := none }

def pool4 : Array CpInfo := pool [(2, .class_ 4), (1, u "com/example/sortition/sortition/MatroidIntersection"), (12, .class_ 18), (0, u "com/example/sortition/sortition/MatroidIntersection$1"), (4, .class_ 24), (0, u "java/lang/Object"), (0, .class_ 26), (0, u "com/example/sortition/sortition/Constraint")] 10

/-- com/example/sortition/sortition/MatroidIntersection -/
def k4 : Class := { plain "com/example/sortition/sortition/MatroidIntersection" (some 0) with
  accessFlags := 1536
  interfaces := #[3]
  cf := some (fileOf pool4 2 #[.nestMembers #[17]] #[] 1536 23 #[25] #[])
  fields := #[]
  methods := #[]
  instanceTypes := #[]
  staticTypes := #[]
  resolved := Array.replicate 37 none
  statics := none }

def pool5 : Array CpInfo := pool [(1, .methodref 2 3), (0, .class_ 4), (0, .nameAndType 5 6), (0, u "java/lang/Record"), (0, u "<init>"), (0, u "()V"), (9, .fieldref 17 18), (0, .class_ 19), (0, .nameAndType 20 21), (0, u "com/example/sortition/sortition/Slots"), (0, u "size"), (0, u "I"), (0, .interfaceMethodref 23 24), (0, .class_ 25), (0, .nameAndType 20 26), (0, u "java/util/List"), (0, u "()I"), (0, .class_ 28), (0, u "com/example/sortition/sortition/Slots$1"), (14, .class_ 44), (0, u "com/example/sortition/sortition/Slots$2"), (19, .class_ 65), (0, u "com/example/sortition/sortition/MatroidIntersection"), (0, u "(I)V"), (4, u "allows"), (0, u "(Ljava/util/List;)Z")] 37

def k5c0 : Code := { maxStack := 3, maxLocals := 2, code := prog_48_method_1_code, exceptionTable := #[], attributes := #[] }
def k5m0 : Method := { name := "<init>", desc := "(I)V", sig := { parameters := [.int], returnType := none }, accessFlags := 0, code := some k5c0 }
def k5c1 : Code := { maxStack := 2, maxLocals := 2, code := prog_48_method_2_code, exceptionTable := #[], attributes := #[] }
def k5m1 : Method := { name := "allows", desc := "(Ljava/util/List;)Z", sig := { parameters := [(.object "java/util/List")], returnType := some .boolean }, accessFlags := 1, code := some k5c1 }
/-- com/example/sortition/sortition/Slots -/
def k5 : Class := { plain "com/example/sortition/sortition/Slots" (some 2) with
  accessFlags := 48
  interfaces := #[4]
  cf := some (fileOf pool5 17 #[.nestMembers #[43, 27]] #[{ accessFlags := 0, nameIndex := 5, descriptorIndex := 66, attributes := #[] }, { accessFlags := 1, nameIndex := 71, descriptorIndex := 72, attributes := #[] }] 48 2 #[64] #[{ accessFlags := 18, nameIndex := 20, descriptorIndex := 21, attributes := #[] }])
  fields := #[{ name := "size", type := .int, accessFlags := 18, slot := 0, constantValue := 0 }]
  methods := #[k5m0, k5m1]
  instanceTypes := #[.int]
  staticTypes := #[]
  resolved := Array.replicate 110 none
  statics := none }

def pool6 : Array CpInfo := pool [(1, .methodref 2 3), (0, .class_ 4), (0, .nameAndType 5 6), (0, u "java/lang/Record"), (0, u "<init>"), (0, u "()V"), (0, .string 8), (0, u "id"), (0, .methodref 10 11), (0, .class_ 12), (0, .nameAndType 13 14), (0, u "java/util/Objects"), (0, u "requireNonNull"), (0, u "(Ljava/lang/Object;Ljava/lang/String;)Ljava/lang/Object;"), (9, .methodref 25 26), (0, .class_ 27), (0, .nameAndType 28 29), (0, u "java/lang/String"), (0, u "isEmpty"), (0, u "()Z"), (4, .double 9218868437227405312), (4, .fieldref 40 41), (0, .class_ 42), (0, .nameAndType 43 44), (0, u "com/example/sortition/sortition/Element"), (0, u "index"), (0, u "I"), (0, .fieldref 40 46), (0, .nameAndType 8 47), (0, u "Ljava/lang/String;"), (0, .fieldref 40 49), (0, .nameAndType 50 51), (0, u "value"), (0, u "D"), (48, u "RANK"), (0, u "Ljava/util/Comparator;"), (2, u "(ILjava/lang/String;D)V")] 56

def k6c0 : Code := { maxStack := 5, maxLocals := 5, code := prog_24_method_1_code, exceptionTable := #[], attributes := #[] }
def k6m0 : Method := { name := "<init>", desc := "(ILjava/lang/String;D)V", sig := { parameters := [.int, (.object "java/lang/String"), .double], returnType := none }, accessFlags := 1, code := some k6c0 }
/-- com/example/sortition/sortition/Element -/
def k6 : Class := { plain "com/example/sortition/sortition/Element" (some 2) with
  accessFlags := 49
  interfaces := #[]
  cf := some (fileOf pool6 40 #[] #[{ accessFlags := 1, nameIndex := 5, descriptorIndex := 104, attributes := #[] }] 49 2 #[] #[{ accessFlags := 18, nameIndex := 43, descriptorIndex := 44, attributes := #[] }, { accessFlags := 18, nameIndex := 8, descriptorIndex := 47, attributes := #[] }, { accessFlags := 18, nameIndex := 50, descriptorIndex := 51, attributes := #[] }, { accessFlags := 25, nameIndex := 100, descriptorIndex := 101, attributes := #[] }])
  fields := #[{ name := "index", type := .int, accessFlags := 18, slot := 0, constantValue := 0 }, { name := "id", type := (.object "java/lang/String"), accessFlags := 18, slot := 1, constantValue := 0 }, { name := "value", type := .double, accessFlags := 18, slot := 2, constantValue := 0 }, { name := "RANK", type := (.object "java/util/Comparator"), accessFlags := 25, slot := 0, constantValue := 0 }]
  methods := #[k6m0]
  instanceTypes := #[.int, (.object "java/lang/String"), .double]
  staticTypes := #[(.object "java/util/Comparator")]
  resolved := Array.replicate 161 none
  statics := none }

def pool7 : Array CpInfo := pool [(1, .class_ 2), (0, u "java/io/Serializable"), (0, .class_ 4), (0, u "java/lang/Object")] 2

/-- java/io/Serializable -/
def k7 : Class := { plain "java/io/Serializable" (some 0) with
  accessFlags := 1537
  interfaces := #[]
  cf := some (fileOf pool7 1 #[] #[] 1537 3 #[] #[])
  fields := #[]
  methods := #[]
  instanceTypes := #[]
  staticTypes := #[]
  resolved := Array.replicate 7 none
  statics := none }

def pool8 : Array CpInfo := pool [(1, .class_ 2), (0, u "java/lang/Comparable"), (0, .class_ 4), (0, u "java/lang/Object")] 7

/-- java/lang/Comparable -/
def k8 : Class := { plain "java/lang/Comparable" (some 0) with
  accessFlags := 1537
  interfaces := #[]
  cf := some (fileOf pool8 1 #[] #[] 1537 3 #[] #[])
  fields := #[]
  methods := #[]
  instanceTypes := #[]
  staticTypes := #[]
  resolved := Array.replicate 12 none
  statics := none }

def pool9 : Array CpInfo := pool [(2, .class_ 4), (1, u "java/lang/CharSequence"), (42, .class_ 48), (0, u "java/lang/CharSequence$1CodePointIterator"), (10, .class_ 60), (0, u "java/lang/CharSequence$1CharIterator"), (5, .class_ 67), (0, u "java/lang/Object")] 63

/-- java/lang/CharSequence -/
def k9 : Class := { plain "java/lang/CharSequence" (some 0) with
  accessFlags := 1537
  interfaces := #[]
  cf := some (fileOf pool9 2 #[.nestMembers #[47, 59]] #[] 1537 66 #[] #[])
  fields := #[]
  methods := #[]
  instanceTypes := #[]
  staticTypes := #[]
  resolved := Array.replicate 131 none
  statics := none }

def pool10 : Array CpInfo := pool [(1, .class_ 2), (0, u "java/lang/constant/Constable"), (0, .class_ 4), (0, u "java/lang/Object")] 6

/-- java/lang/constant/Constable -/
def k10 : Class := { plain "java/lang/constant/Constable" (some 0) with
  accessFlags := 1537
  interfaces := #[]
  cf := some (fileOf pool10 1 #[] #[] 1537 3 #[] #[])
  fields := #[]
  methods := #[]
  instanceTypes := #[]
  staticTypes := #[]
  resolved := Array.replicate 11 none
  statics := none }

def pool11 : Array CpInfo := pool [(1, .class_ 2), (0, u "java/lang/constant/ConstantDesc"), (0, .class_ 4), (0, u "java/lang/Object")] 32

/-- java/lang/constant/ConstantDesc -/
def k11 : Class := { plain "java/lang/constant/ConstantDesc" (some 0) with
  accessFlags := 1537
  interfaces := #[]
  cf := some (fileOf pool11 1 #[] #[] 1537 3 #[] #[])
  fields := #[]
  methods := #[]
  instanceTypes := #[]
  staticTypes := #[]
  resolved := Array.replicate 37 none
  statics := none }

def pool12 : Array CpInfo := pool [(2, .class_ 4), (1, u "java/lang/Object"), (0, u "<init>"), (0, u "()V"), (2, .fieldref 10 11), (0, .class_ 12), (0, .nameAndType 13 14), (0, u "java/lang/String"), (0, u "value"), (0, u "[B"), (2, u "coder"), (0, u "B"), (2, u "hash"), (0, u "I"), (2, u "hashIsZero"), (0, u "Z"), (13, u "COMPACT_STRINGS"), (101, u "()Z"), (432, .class_ 576), (0, u "java/lang/CharSequence"), (22, u "CASE_INSENSITIVE_ORDER"), (0, u "Ljava/util/Comparator;"), (91, u "isEmpty"), (408, u "serialPersistentFields"), (0, u "[Ljava/io/ObjectStreamField;"), (0, .class_ 1104), (0, u "java/lang/String$CaseInsensitiveComparator"), (1, .class_ 1107), (0, u "java/io/Serializable"), (0, .class_ 1109), (0, u "java/lang/Comparable"), (0, .class_ 1111), (0, u "java/lang/constant/Constable"), (0, .class_ 1113), (0, u "java/lang/constant/ConstantDesc"), (2, u "serialVersionUID"), (0, u "J"), (3, u "REPL"), (0, u "C"), (2, u "LATIN1"), (1, u "UTF16")] 323

def k12m0 : Method := { name := "<init>", desc := "()V", sig := { parameters := [], returnType := none }, accessFlags := 1, code := none }
def k12c1 : Code := { maxStack := 1, maxLocals := 1, code := jdk_42_method_55_code, exceptionTable := #[], attributes := #[] }
def k12m1 : Method := { name := "isEmpty", desc := "()Z", sig := { parameters := [], returnType := some .boolean }, accessFlags := 1, code := some k12c1 }
/-- java/lang/String -/
def k12 : Class := { plain "java/lang/String" (some 0) with
  accessFlags := 49
  interfaces := #[7, 8, 9, 10, 11]
  cf := some (fileOf pool12 10 #[.nestMembers #[1103]] #[{ accessFlags := 1, nameIndex := 5, descriptorIndex := 6, attributes := #[] }, { accessFlags := 1, nameIndex := 692, descriptorIndex := 142, attributes := #[] }] 49 2 #[1106, 1108, 575, 1110, 1112] #[{ accessFlags := 18, nameIndex := 13, descriptorIndex := 14, attributes := #[] }, { accessFlags := 18, nameIndex := 17, descriptorIndex := 18, attributes := #[] }, { accessFlags := 2, nameIndex := 21, descriptorIndex := 22, attributes := #[] }, { accessFlags := 2, nameIndex := 25, descriptorIndex := 26, attributes := #[] }, { accessFlags := 26, nameIndex := 1116, descriptorIndex := 1117, attributes := #[] }, { accessFlags := 24, nameIndex := 40, descriptorIndex := 26, attributes := #[] }, { accessFlags := 26, nameIndex := 1101, descriptorIndex := 1102, attributes := #[] }, { accessFlags := 26, nameIndex := 1121, descriptorIndex := 1122, attributes := #[] }, { accessFlags := 25, nameIndex := 599, descriptorIndex := 600, attributes := #[] }, { accessFlags := 24, nameIndex := 1125, descriptorIndex := 18, attributes := #[] }, { accessFlags := 24, nameIndex := 1127, descriptorIndex := 18, attributes := #[] }])
  fields := #[{ name := "value", type := (.array .byte), accessFlags := 18, slot := 0, constantValue := 0 }, { name := "coder", type := .byte, accessFlags := 18, slot := 1, constantValue := 0 }, { name := "hash", type := .int, accessFlags := 2, slot := 2, constantValue := 0 }, { name := "hashIsZero", type := .boolean, accessFlags := 2, slot := 3, constantValue := 0 }, { name := "serialVersionUID", type := .long, accessFlags := 26, slot := 0, constantValue := 0 }, { name := "COMPACT_STRINGS", type := .boolean, accessFlags := 24, slot := 1, constantValue := 0 }, { name := "serialPersistentFields", type := (.array (.object "java/io/ObjectStreamField")), accessFlags := 26, slot := 2, constantValue := 0 }, { name := "REPL", type := .char, accessFlags := 26, slot := 3, constantValue := 0 }, { name := "CASE_INSENSITIVE_ORDER", type := (.object "java/util/Comparator"), accessFlags := 25, slot := 4, constantValue := 0 }, { name := "LATIN1", type := .byte, accessFlags := 24, slot := 5, constantValue := 0 }, { name := "UTF16", type := .byte, accessFlags := 24, slot := 6, constantValue := 0 }]
  methods := #[k12m0, k12m1]
  instanceTypes := #[(.array .byte), .byte, .int, .boolean]
  staticTypes := #[.long, .boolean, (.array (.object "java/io/ObjectStreamField")), .char, (.object "java/util/Comparator"), .byte, .byte]
  resolved := Array.replicate 1451 none
  statics := some 0 }

def pool13 : Array CpInfo := pool [(2, .class_ 4), (1, u "java/lang/Object"), (0, u "<init>"), (0, u "()V"), (35, .class_ 44), (1, u "java/util/Objects"), (0, u "requireNonNull"), (48, u "(Ljava/lang/Object;Ljava/lang/String;)Ljava/lang/Object;")] 89

def k13m0 : Method := { name := "<init>", desc := "()V", sig := { parameters := [], returnType := none }, accessFlags := 2, code := none }
def k13c1 : Code := { maxStack := 3, maxLocals := 2, code := jdk_31_method_11_code, exceptionTable := #[], attributes := #[] }
def k13m1 : Method := { name := "requireNonNull", desc := "(Ljava/lang/Object;Ljava/lang/String;)Ljava/lang/Object;", sig := { parameters := [(.object "java/lang/Object"), (.object "java/lang/String")], returnType := some (.object "java/lang/Object") }, accessFlags := 9, code := some k13c1 }
/-- java/util/Objects -/
def k13 : Class := { plain "java/util/Objects" (some 0) with
  accessFlags := 49
  interfaces := #[]
  cf := some (fileOf pool13 42 #[] #[{ accessFlags := 2, nameIndex := 5, descriptorIndex := 6, attributes := #[] }, { accessFlags := 9, nameIndex := 45, descriptorIndex := 94, attributes := #[] }] 49 2 #[] #[])
  fields := #[]
  methods := #[k13m0, k13m1]
  instanceTypes := #[]
  staticTypes := #[]
  resolved := Array.replicate 184 none
  statics := none }

def pool14 : Array CpInfo := pool [(8, .class_ 10), (1, u "java/lang/Iterable"), (24, .class_ 36), (0, u "java/lang/Object")] 25

/-- java/lang/Iterable -/
def k14 : Class := { plain "java/lang/Iterable" (some 0) with
  accessFlags := 1537
  interfaces := #[]
  cf := some (fileOf pool14 8 #[] #[] 1537 35 #[] #[])
  fields := #[]
  methods := #[]
  instanceTypes := #[]
  staticTypes := #[]
  resolved := Array.replicate 62 none
  statics := none }

def pool15 : Array CpInfo := pool [(10, .class_ 12), (1, u "java/util/Collection"), (47, .class_ 61), (0, u "java/lang/Object"), (0, .class_ 63), (0, u "java/lang/Iterable")] 51

/-- java/util/Collection -/
def k15 : Class := { plain "java/util/Collection" (some 0) with
  accessFlags := 1537
  interfaces := #[14]
  cf := some (fileOf pool15 10 #[] #[] 1537 60 #[62] #[])
  fields := #[]
  methods := #[]
  instanceTypes := #[]
  staticTypes := #[]
  resolved := Array.replicate 115 none
  statics := none }

def pool16 : Array CpInfo := pool [(1, .methodref 2 3), (0, .class_ 4), (0, .nameAndType 5 6), (0, u "java/lang/Object"), (0, u "<init>"), (0, u "()V"), (1, .class_ 10), (1, u "java/util/AbstractCollection"), (66, .class_ 78), (0, u "java/util/Collection")] 81

def k16c0 : Code := { maxStack := 1, maxLocals := 1, code := jdk_22_method_1_code, exceptionTable := #[], attributes := #[] }
def k16m0 : Method := { name := "<init>", desc := "()V", sig := { parameters := [], returnType := none }, accessFlags := 4, code := some k16c0 }
/-- java/util/AbstractCollection -/
def k16 : Class := { plain "java/util/AbstractCollection" (some 0) with
  accessFlags := 1057
  interfaces := #[15]
  cf := some (fileOf pool16 8 #[] #[{ accessFlags := 4, nameIndex := 5, descriptorIndex := 6, attributes := #[] }] 1057 2 #[77] #[])
  fields := #[]
  methods := #[k16m0]
  instanceTypes := #[]
  staticTypes := #[]
  resolved := Array.replicate 160 none
  statics := none }

def pool17 : Array CpInfo := pool [(8, .class_ 10), (1, u "java/util/SequencedCollection"), (15, .class_ 27), (0, u "java/lang/Object"), (0, .class_ 29), (0, u "java/util/Collection")] 27

/-- java/util/SequencedCollection -/
def k17 : Class := { plain "java/util/SequencedCollection" (some 0) with
  accessFlags := 1537
  interfaces := #[15]
  cf := some (fileOf pool17 8 #[] #[] 1537 26 #[28] #[])
  fields := #[]
  methods := #[]
  instanceTypes := #[]
  staticTypes := #[]
  resolved := Array.replicate 57 none
  statics := none }

def pool18 : Array CpInfo := pool [(8, .class_ 10), (1, u "java/util/List"), (68, u "size"), (0, u "()I"), (22, .class_ 104), (0, u "java/lang/Object"), (15, .class_ 121), (0, u "java/util/SequencedCollection")] 129

def k18m0 : Method := { name := "size", desc := "()I", sig := { parameters := [], returnType := some .int }, accessFlags := 1025, code := none }
/-- java/util/List -/
def k18 : Class := { plain "java/util/List" (some 0) with
  accessFlags := 1537
  interfaces := #[17]
  cf := some (fileOf pool18 8 #[] #[{ accessFlags := 1025, nameIndex := 79, descriptorIndex := 80, attributes := #[] }] 1537 103 #[120] #[])
  fields := #[]
  methods := #[k18m0]
  instanceTypes := #[]
  staticTypes := #[]
  resolved := Array.replicate 251 none
  statics := none }

def pool19 : Array CpInfo := pool [(1, .methodref 2 3), (0, .class_ 4), (0, .nameAndType 5 6), (0, u "java/util/AbstractCollection"), (0, u "<init>"), (0, u "()V"), (0, .fieldref 8 9), (0, .class_ 10), (0, .nameAndType 11 12), (0, u "java/util/AbstractList"), (0, u "modCount"), (0, u "I"), (64, .class_ 78), (0, u "java/util/AbstractList$Itr"), (3, .class_ 83), (0, u "java/util/AbstractList$ListItr"), (9, .class_ 94), (0, u "java/util/AbstractList$RandomAccessSubList"), (3, .class_ 99), (0, u "java/util/AbstractList$SubList"), (33, .class_ 134), (0, u "java/util/List"), (73, .class_ 209), (0, u "java/util/AbstractList$SubList$1"), (0, .class_ 211), (0, u "java/util/AbstractList$RandomAccessSpliterator")] 6

def k19c0 : Code := { maxStack := 2, maxLocals := 1, code := jdk_39_method_1_code, exceptionTable := #[], attributes := #[] }
def k19m0 : Method := { name := "<init>", desc := "()V", sig := { parameters := [], returnType := none }, accessFlags := 4, code := some k19c0 }
/-- java/util/AbstractList -/
def k19 : Class := { plain "java/util/AbstractList" (some 16) with
  accessFlags := 1057
  interfaces := #[18]
  cf := some (fileOf pool19 8 #[.nestMembers #[93, 98, 208, 210, 82, 77]] #[{ accessFlags := 4, nameIndex := 5, descriptorIndex := 6, attributes := #[] }] 1057 2 #[133] #[{ accessFlags := 132, nameIndex := 11, descriptorIndex := 12, attributes := #[] }])
  fields := #[{ name := "modCount", type := .int, accessFlags := 132, slot := 0, constantValue := 0 }]
  methods := #[k19m0]
  instanceTypes := #[.int]
  staticTypes := #[]
  resolved := Array.replicate 218 none
  statics := none }

def pool20 : Array CpInfo := pool [(1, .class_ 2), (0, u "java/util/RandomAccess"), (0, .class_ 4), (0, u "java/lang/Object")] 2

/-- java/util/RandomAccess -/
def k20 : Class := { plain "java/util/RandomAccess" (some 0) with
  accessFlags := 1537
  interfaces := #[]
  cf := some (fileOf pool20 1 #[] #[] 1537 3 #[] #[])
  fields := #[]
  methods := #[]
  instanceTypes := #[]
  staticTypes := #[]
  resolved := Array.replicate 7 none
  statics := none }

def pool21 : Array CpInfo := pool [(1, .class_ 2), (0, u "java/lang/Cloneable"), (0, .class_ 4), (0, u "java/lang/Object")] 2

/-- java/lang/Cloneable -/
def k21 : Class := { plain "java/lang/Cloneable" (some 0) with
  accessFlags := 1537
  interfaces := #[]
  cf := some (fileOf pool21 1 #[] #[] 1537 3 #[] #[])
  fields := #[]
  methods := #[]
  instanceTypes := #[]
  staticTypes := #[]
  resolved := Array.replicate 7 none
  statics := none }

def pool22 : Array CpInfo := pool [(1, .methodref 2 3), (0, .class_ 4), (0, .nameAndType 5 6), (0, u "java/util/AbstractList"), (0, u "<init>"), (0, u "()V"), (0, .class_ 8), (0, u "java/lang/Object"), (0, .fieldref 10 11), (0, .class_ 12), (0, .nameAndType 13 14), (0, u "java/util/ArrayList"), (0, u "elementData"), (0, u "[Ljava/lang/Object;"), (2, u "EMPTY_ELEMENTDATA"), (21, .fieldref 10 40), (0, .nameAndType 41 14), (0, u "DEFAULTCAPACITY_EMPTY_ELEMENTDATA"), (5, u "()[Ljava/lang/Object;"), (0, .fieldref 10 49), (0, .nameAndType 50 51), (0, u "size"), (0, u "I"), (11, .fieldref 10 64), (0, .nameAndType 65 51), (0, u "modCount"), (3, .methodref 10 70), (0, .nameAndType 71 72), (0, u "grow"), (0, u "(I)[Ljava/lang/Object;"), (6, .methodref 80 81), (0, .class_ 82), (0, .nameAndType 83 84), (0, u "java/lang/Math"), (0, u "max"), (0, u "(II)I"), (11, u "(Ljava/lang/Object;)Z"), (32, .methodref 10 130), (0, .nameAndType 71 47), (0, .methodref 10 132), (0, .nameAndType 133 134), (0, u "add"), (0, u "(Ljava/lang/Object;[Ljava/lang/Object;I)V"), (13, .class_ 149), (0, u "java/util/List"), (36, u "()I"), (75, .class_ 263), (0, u "java/util/ArrayList$ListItr"), (3, .class_ 268), (0, u "java/util/ArrayList$Itr"), (7, .class_ 277), (0, u "java/util/ArrayList$SubList"), (12, .class_ 291), (0, u "java/util/ArrayList$ArrayListSpliterator"), (37, .class_ 330), (0, u "java/util/RandomAccess"), (0, .class_ 332), (0, u "java/lang/Cloneable"), (0, .class_ 334), (0, u "java/io/Serializable"), (0, u "serialVersionUID"), (0, u "J"), (3, u "DEFAULT_CAPACITY"), (159, .class_ 501), (0, u "java/util/ArrayList$SubList$2"), (0, .class_ 503), (0, u "java/util/ArrayList$SubList$1")] 5

def k22c0 : Code := { maxStack := 2, maxLocals := 1, code := jdk_38_method_2_code, exceptionTable := #[], attributes := #[] }
def k22m0 : Method := { name := "<init>", desc := "()V", sig := { parameters := [], returnType := none }, accessFlags := 1, code := some k22c0 }
def k22c1 : Code := { maxStack := 4, maxLocals := 4, code := jdk_38_method_6_code, exceptionTable := #[], attributes := #[] }
def k22m1 : Method := { name := "grow", desc := "(I)[Ljava/lang/Object;", sig := { parameters := [.int], returnType := some (.array (.object "java/lang/Object")) }, accessFlags := 2, code := some k22c1 }
def k22c2 : Code := { maxStack := 3, maxLocals := 1, code := jdk_38_method_7_code, exceptionTable := #[], attributes := #[] }
def k22m2 : Method := { name := "grow", desc := "()[Ljava/lang/Object;", sig := { parameters := [], returnType := some (.array (.object "java/lang/Object")) }, accessFlags := 2, code := some k22c2 }
def k22c3 : Code := { maxStack := 1, maxLocals := 1, code := jdk_38_method_8_code, exceptionTable := #[], attributes := #[] }
def k22m3 : Method := { name := "size", desc := "()I", sig := { parameters := [], returnType := some .int }, accessFlags := 1, code := some k22c3 }
def k22c4 : Code := { maxStack := 3, maxLocals := 4, code := jdk_38_method_24_code, exceptionTable := #[], attributes := #[] }
def k22m4 : Method := { name := "add", desc := "(Ljava/lang/Object;[Ljava/lang/Object;I)V", sig := { parameters := [(.object "java/lang/Object"), (.array (.object "java/lang/Object")), .int], returnType := none }, accessFlags := 2, code := some k22c4 }
def k22c5 : Code := { maxStack := 4, maxLocals := 2, code := jdk_38_method_25_code, exceptionTable := #[], attributes := #[] }
def k22m5 : Method := { name := "add", desc := "(Ljava/lang/Object;)Z", sig := { parameters := [(.object "java/lang/Object")], returnType := some .boolean }, accessFlags := 1, code := some k22c5 }
/-- java/util/ArrayList -/
def k22 : Class := { plain "java/util/ArrayList" (some 19) with
  accessFlags := 33
  interfaces := #[18, 20, 21, 7]
  cf := some (fileOf pool22 10 #[.nestMembers #[290, 276, 500, 502, 262, 267]] #[{ accessFlags := 1, nameIndex := 5, descriptorIndex := 6, attributes := #[] }, { accessFlags := 2, nameIndex := 71, descriptorIndex := 72, attributes := #[] }, { accessFlags := 2, nameIndex := 71, descriptorIndex := 47, attributes := #[] }, { accessFlags := 1, nameIndex := 50, descriptorIndex := 186, attributes := #[] }, { accessFlags := 2, nameIndex := 133, descriptorIndex := 134, attributes := #[] }, { accessFlags := 1, nameIndex := 133, descriptorIndex := 96, attributes := #[] }] 33 2 #[148, 329, 331, 333] #[{ accessFlags := 26, nameIndex := 335, descriptorIndex := 336, attributes := #[] }, { accessFlags := 26, nameIndex := 340, descriptorIndex := 51, attributes := #[] }, { accessFlags := 26, nameIndex := 17, descriptorIndex := 14, attributes := #[] }, { accessFlags := 26, nameIndex := 41, descriptorIndex := 14, attributes := #[] }, { accessFlags := 128, nameIndex := 13, descriptorIndex := 14, attributes := #[] }, { accessFlags := 2, nameIndex := 50, descriptorIndex := 51, attributes := #[] }])
  fields := #[{ name := "serialVersionUID", type := .long, accessFlags := 26, slot := 0, constantValue := 0 }, { name := "DEFAULT_CAPACITY", type := .int, accessFlags := 26, slot := 1, constantValue := 0 }, { name := "EMPTY_ELEMENTDATA", type := (.array (.object "java/lang/Object")), accessFlags := 26, slot := 2, constantValue := 0 }, { name := "DEFAULTCAPACITY_EMPTY_ELEMENTDATA", type := (.array (.object "java/lang/Object")), accessFlags := 26, slot := 3, constantValue := 0 }, { name := "elementData", type := (.array (.object "java/lang/Object")), accessFlags := 128, slot := 1, constantValue := 0 }, { name := "size", type := .int, accessFlags := 2, slot := 2, constantValue := 0 }]
  methods := #[k22m0, k22m1, k22m2, k22m3, k22m4, k22m5]
  instanceTypes := #[.int, (.array (.object "java/lang/Object")), .int]
  staticTypes := #[.long, .int, (.array (.object "java/lang/Object")), (.array (.object "java/lang/Object"))]
  resolved := Array.replicate 509 none
  statics := some 1 }

def pool23 : Array CpInfo := pool [(1, .class_ 2), (0, u "java/lang/Math"), (1, .class_ 6), (1, u "java/lang/Object"), (0, u "<init>"), (0, u "()V"), (89, .class_ 100), (1, u "java/lang/Math$RandomNumberGeneratorHolder"), (71, u "negativeZeroFloatBits"), (0, u "J"), (2, u "negativeZeroDoubleBits"), (21, u "max"), (46, u "$assertionsDisabled"), (0, u "Z"), (88, u "(II)I"), (2, u "twoToTheDoubleScaleDown"), (0, u "D"), (4, u "twoToTheDoubleScaleUp"), (9, u "E"), (3, u "PI"), (2, u "TAU"), (2, u "DEGREES_TO_RADIANS"), (0, u "RADIANS_TO_DEGREES")] 94

def k23m0 : Method := { name := "<init>", desc := "()V", sig := { parameters := [], returnType := none }, accessFlags := 2, code := none }
def k23c1 : Code := { maxStack := 2, maxLocals := 2, code := jdk_29_method_65_code, exceptionTable := #[], attributes := #[] }
def k23m1 : Method := { name := "max", desc := "(II)I", sig := { parameters := [.int, .int], returnType := some .int }, accessFlags := 9, code := some k23c1 }
/-- java/lang/Math -/
def k23 : Class := { plain "java/lang/Math" (some 0) with
  accessFlags := 49
  interfaces := #[]
  cf := some (fileOf pool23 1 #[.nestMembers #[98]] #[{ accessFlags := 2, nameIndex := 7, descriptorIndex := 8, attributes := #[] }, { accessFlags := 9, nameIndex := 198, descriptorIndex := 335, attributes := #[] }] 49 4 #[] #[{ accessFlags := 25, nameIndex := 354, descriptorIndex := 339, attributes := #[] }, { accessFlags := 25, nameIndex := 358, descriptorIndex := 339, attributes := #[] }, { accessFlags := 25, nameIndex := 361, descriptorIndex := 339, attributes := #[] }, { accessFlags := 26, nameIndex := 364, descriptorIndex := 339, attributes := #[] }, { accessFlags := 26, nameIndex := 365, descriptorIndex := 339, attributes := #[] }, { accessFlags := 26, nameIndex := 172, descriptorIndex := 173, attributes := #[] }, { accessFlags := 26, nameIndex := 176, descriptorIndex := 173, attributes := #[] }, { accessFlags := 8, nameIndex := 344, descriptorIndex := 339, attributes := #[] }, { accessFlags := 8, nameIndex := 338, descriptorIndex := 339, attributes := #[] }, { accessFlags := 4120, nameIndex := 245, descriptorIndex := 246, attributes := #[] }])
  fields := #[{ name := "E", type := .double, accessFlags := 25, slot := 0, constantValue := 0 }, { name := "PI", type := .double, accessFlags := 25, slot := 1, constantValue := 0 }, { name := "TAU", type := .double, accessFlags := 25, slot := 2, constantValue := 0 }, { name := "DEGREES_TO_RADIANS", type := .double, accessFlags := 26, slot := 3, constantValue := 0 }, { name := "RADIANS_TO_DEGREES", type := .double, accessFlags := 26, slot := 4, constantValue := 0 }, { name := "negativeZeroFloatBits", type := .long, accessFlags := 26, slot := 5, constantValue := 0 }, { name := "negativeZeroDoubleBits", type := .long, accessFlags := 26, slot := 6, constantValue := 0 }, { name := "twoToTheDoubleScaleUp", type := .double, accessFlags := 8, slot := 7, constantValue := 0 }, { name := "twoToTheDoubleScaleDown", type := .double, accessFlags := 8, slot := 8, constantValue := 0 }, { name := "$assertionsDisabled", type := .boolean, accessFlags := 4120, slot := 9, constantValue := 0 }]
  methods := #[k23m0, k23m1]
  instanceTypes := #[]
  staticTypes := #[.double, .double, .double, .double, .double, .long, .long, .double, .double, .boolean]
  resolved := Array.replicate 460 none
  statics := none }

def pool24 : Array CpInfo := pool [(4, .class_ 6), (1, u "java/lang/Object"), (0, u "<init>"), (0, u "()V"), (5, .class_ 16), (1, u "java/lang/StringLatin1"), (104, u "$assertionsDisabled"), (0, u "Z"), (98, .class_ 223), (1, u "java/lang/StringLatin1$LinesSpliterator"), (166, .class_ 391), (0, u "java/lang/StringLatin1$CharsSpliterator")] 3

def k24m0 : Method := { name := "<init>", desc := "()V", sig := { parameters := [], returnType := none }, accessFlags := 0, code := none }
/-- java/lang/StringLatin1 -/
def k24 : Class := { plain "java/lang/StringLatin1" (some 0) with
  accessFlags := 48
  interfaces := #[]
  cf := some (fileOf pool24 14 #[.nestMembers #[390, 221]] #[{ accessFlags := 0, nameIndex := 7, descriptorIndex := 8, attributes := #[] }] 48 4 #[] #[{ accessFlags := 4120, nameIndex := 121, descriptorIndex := 122, attributes := #[] }])
  fields := #[{ name := "$assertionsDisabled", type := .boolean, accessFlags := 4120, slot := 0, constantValue := 0 }]
  methods := #[k24m0]
  instanceTypes := #[]
  staticTypes := #[.boolean]
  resolved := Array.replicate 395 none
  statics := none }

def pool25 : Array CpInfo := pool [(2, .class_ 4), (1, u "java/lang/Object"), (0, u "<init>"), (0, u "()V"), (17, .class_ 26), (1, u "jdk/internal/util/Preconditions"), (28, .class_ 56), (0, u "jdk/internal/util/Preconditions$4"), (57, .class_ 115), (0, u "jdk/internal/util/Preconditions$1"), (7, u "SIOOBE_FORMATTER"), (0, u "Ljava/util/function/BiFunction;"), (0, .class_ 126), (0, u "jdk/internal/util/Preconditions$2"), (3, u "AIOOBE_FORMATTER"), (0, .class_ 132), (0, u "jdk/internal/util/Preconditions$3"), (3, u "IOOBE_FORMATTER")] 57

def k25m0 : Method := { name := "<init>", desc := "()V", sig := { parameters := [], returnType := none }, accessFlags := 1, code := none }
/-- jdk/internal/util/Preconditions -/
def k25 : Class := { plain "jdk/internal/util/Preconditions" (some 0) with
  accessFlags := 33
  interfaces := #[]
  cf := some (fileOf pool25 24 #[.nestMembers #[55, 131, 125, 114]] #[{ accessFlags := 1, nameIndex := 5, descriptorIndex := 6, attributes := #[] }] 33 2 #[] #[{ accessFlags := 25, nameIndex := 123, descriptorIndex := 124, attributes := #[] }, { accessFlags := 25, nameIndex := 130, descriptorIndex := 124, attributes := #[] }, { accessFlags := 25, nameIndex := 136, descriptorIndex := 124, attributes := #[] }])
  fields := #[{ name := "SIOOBE_FORMATTER", type := (.object "java/util/function/BiFunction"), accessFlags := 25, slot := 0, constantValue := 0 }, { name := "AIOOBE_FORMATTER", type := (.object "java/util/function/BiFunction"), accessFlags := 25, slot := 1, constantValue := 0 }, { name := "IOOBE_FORMATTER", type := (.object "java/util/function/BiFunction"), accessFlags := 25, slot := 2, constantValue := 0 }]
  methods := #[k25m0]
  instanceTypes := #[]
  staticTypes := #[(.object "java/util/function/BiFunction"), (.object "java/util/function/BiFunction"), (.object "java/util/function/BiFunction")]
  resolved := Array.replicate 194 none
  statics := some 2 }

def pool26 : Array CpInfo := pool [(9, u "<init>"), (6, .class_ 18), (1, u "java/lang/Object"), (0, u "()V"), (1, .class_ 23), (1, u "jdk/internal/util/ArraysSupport"), (0, u "LOG2_ARRAY_LONG_INDEX_SCALE"), (0, u "I"), (2, u "U"), (0, u "Ljdk/internal/misc/Unsafe;"), (8, u "BIG_ENDIAN"), (0, u "Z"), (8, u "LOG2_BYTE_BIT_SIZE"), (4, u "LOG2_ARRAY_INT_INDEX_SCALE"), (54, u "JLA"), (0, u "Ljdk/internal/access/JavaLangAccess;"), (11, u "LOG2_ARRAY_BOOLEAN_INDEX_SCALE"), (9, u "LOG2_ARRAY_BYTE_INDEX_SCALE"), (5, u "LOG2_ARRAY_CHAR_INDEX_SCALE"), (5, u "LOG2_ARRAY_SHORT_INDEX_SCALE"), (18, u "LOG2_ARRAY_FLOAT_INDEX_SCALE"), (24, u "LOG2_ARRAY_DOUBLE_INDEX_SCALE"), (89, u "T_BOOLEAN"), (2, u "T_CHAR"), (1, u "T_FLOAT"), (1, u "T_DOUBLE"), (1, u "T_BYTE"), (1, u "T_SHORT"), (1, u "T_INT"), (1, u "T_LONG"), (1, u "SOFT_MAX_ARRAY_LENGTH")] 83

def k26m0 : Method := { name := "<init>", desc := "()V", sig := { parameters := [], returnType := none }, accessFlags := 2, code := none }
/-- jdk/internal/util/ArraysSupport -/
def k26 : Class := { plain "jdk/internal/util/ArraysSupport" (some 0) with
  accessFlags := 33
  interfaces := #[]
  cf := some (fileOf pool26 21 #[] #[{ accessFlags := 2, nameIndex := 9, descriptorIndex := 19, attributes := #[] }] 33 16 #[] #[{ accessFlags := 24, nameIndex := 28, descriptorIndex := 29, attributes := #[] }, { accessFlags := 26, nameIndex := 38, descriptorIndex := 39, attributes := #[] }, { accessFlags := 25, nameIndex := 121, descriptorIndex := 25, attributes := #[] }, { accessFlags := 25, nameIndex := 131, descriptorIndex := 25, attributes := #[] }, { accessFlags := 25, nameIndex := 137, descriptorIndex := 25, attributes := #[] }, { accessFlags := 25, nameIndex := 143, descriptorIndex := 25, attributes := #[] }, { accessFlags := 25, nameIndex := 53, descriptorIndex := 25, attributes := #[] }, { accessFlags := 25, nameIndex := 24, descriptorIndex := 25, attributes := #[] }, { accessFlags := 25, nameIndex := 162, descriptorIndex := 25, attributes := #[] }, { accessFlags := 25, nameIndex := 187, descriptorIndex := 25, attributes := #[] }, { accessFlags := 26, nameIndex := 48, descriptorIndex := 25, attributes := #[] }, { accessFlags := 25, nameIndex := 277, descriptorIndex := 25, attributes := #[] }, { accessFlags := 25, nameIndex := 280, descriptorIndex := 25, attributes := #[] }, { accessFlags := 25, nameIndex := 282, descriptorIndex := 25, attributes := #[] }, { accessFlags := 25, nameIndex := 284, descriptorIndex := 25, attributes := #[] }, { accessFlags := 25, nameIndex := 286, descriptorIndex := 25, attributes := #[] }, { accessFlags := 25, nameIndex := 288, descriptorIndex := 25, attributes := #[] }, { accessFlags := 25, nameIndex := 290, descriptorIndex := 25, attributes := #[] }, { accessFlags := 25, nameIndex := 292, descriptorIndex := 25, attributes := #[] }, { accessFlags := 26, nameIndex := 108, descriptorIndex := 109, attributes := #[] }, { accessFlags := 25, nameIndex := 294, descriptorIndex := 25, attributes := #[] }])
  fields := #[{ name := "U", type := (.object "jdk/internal/misc/Unsafe"), accessFlags := 24, slot := 0, constantValue := 0 }, { name := "BIG_ENDIAN", type := .boolean, accessFlags := 26, slot := 1, constantValue := 0 }, { name := "LOG2_ARRAY_BOOLEAN_INDEX_SCALE", type := .int, accessFlags := 25, slot := 2, constantValue := 0 }, { name := "LOG2_ARRAY_BYTE_INDEX_SCALE", type := .int, accessFlags := 25, slot := 3, constantValue := 0 }, { name := "LOG2_ARRAY_CHAR_INDEX_SCALE", type := .int, accessFlags := 25, slot := 4, constantValue := 0 }, { name := "LOG2_ARRAY_SHORT_INDEX_SCALE", type := .int, accessFlags := 25, slot := 5, constantValue := 0 }, { name := "LOG2_ARRAY_INT_INDEX_SCALE", type := .int, accessFlags := 25, slot := 6, constantValue := 0 }, { name := "LOG2_ARRAY_LONG_INDEX_SCALE", type := .int, accessFlags := 25, slot := 7, constantValue := 0 }, { name := "LOG2_ARRAY_FLOAT_INDEX_SCALE", type := .int, accessFlags := 25, slot := 8, constantValue := 0 }, { name := "LOG2_ARRAY_DOUBLE_INDEX_SCALE", type := .int, accessFlags := 25, slot := 9, constantValue := 0 }, { name := "LOG2_BYTE_BIT_SIZE", type := .int, accessFlags := 26, slot := 10, constantValue := 0 }, { name := "T_BOOLEAN", type := .int, accessFlags := 25, slot := 11, constantValue := 0 }, { name := "T_CHAR", type := .int, accessFlags := 25, slot := 12, constantValue := 0 }, { name := "T_FLOAT", type := .int, accessFlags := 25, slot := 13, constantValue := 0 }, { name := "T_DOUBLE", type := .int, accessFlags := 25, slot := 14, constantValue := 0 }, { name := "T_BYTE", type := .int, accessFlags := 25, slot := 15, constantValue := 0 }, { name := "T_SHORT", type := .int, accessFlags := 25, slot := 16, constantValue := 0 }, { name := "T_INT", type := .int, accessFlags := 25, slot := 17, constantValue := 0 }, { name := "T_LONG", type := .int, accessFlags := 25, slot := 18, constantValue := 0 }, { name := "JLA", type := (.object "jdk/internal/access/JavaLangAccess"), accessFlags := 26, slot := 19, constantValue := 0 }, { name := "SOFT_MAX_ARRAY_LENGTH", type := .int, accessFlags := 25, slot := 20, constantValue := 0 }]
  methods := #[k26m0]
  instanceTypes := #[]
  staticTypes := #[(.object "jdk/internal/misc/Unsafe"), .boolean, .int, .int, .int, .int, .int, .int, .int, .int, .int, .int, .int, .int, .int, .int, .int, .int, .int, (.object "jdk/internal/access/JavaLangAccess"), .int]
  resolved := Array.replicate 378 none
  statics := none }

/-- the primitive byte -/
def k27 : Class := { plain "byte" none with kind := .primitive 'B', accessFlags := 0x411 }
/-- [B -/
def k28 : Class := { plain "[B" (some 0) with kind := .array 27 .byte, interfaces := #[21, 7], accessFlags := 1041 }

/-- the primitive int -/
def k29 : Class := { plain "int" none with kind := .primitive 'I', accessFlags := 0x411 }
/-- [I -/
def k30 : Class := { plain "[I" (some 0) with kind := .array 29 .int, interfaces := #[21, 7], accessFlags := 1041 }

/-- [Ljava/lang/Object; -/
def k31 : Class := { plain "[Ljava/lang/Object;" (some 0) with kind := .array 0 (.object "java/lang/Object"), interfaces := #[21, 7], accessFlags := 1041 }

def heap : Heap := #[{ cls := 12, slots := #[.long 0, .int 1, .null, .int 0, .null, .int 0, .int 0], vm := .statics 12 },
  { cls := 22, slots := #[.long 0, .int 0, .ref 3, .ref 4], vm := .statics 22 },
  { cls := 25, slots := #[.null, .null, .null], vm := .statics 25 },
  { cls := 31, slots := #[], vm := .none },
  { cls := 31, slots := #[], vm := .none }]
def classes : Array Class := #[k0, k1, k2, k3, k4, k5, k6, k7, k8, k9, k10, k11, k12, k13, k14, k15, k16, k17, k18, k19, k20, k21, k22, k23, k24, k25, k26, k27, k28, k29, k30, k31]
def interned : List (Array UInt16 × Addr) := []
def slotsUsed : Nat := 14
def theMethod : MethodId := ⟨1, 1⟩
def args0 : Array Value := #[.int 5, .int 3]
def aboutOver (below : List Frame) : State where
  vm := { classes := classes, interned := interned.toArray }
  heap := heap
  slotsUsed := slotsUsed
  threads := #[{ frames := .invoking theMethod args0 :: below }]
def below0 : List Frame := [.native { method := ⟨0, 0⟩, args := #[] }]
def about1 : State := aboutOver below0
def p0 : Program := .bare "" "" ""
def e0 : Env := launch0.env 0 0 0
theorem w_frames : about1.frames = Frame.invoking theMethod args0 :: below0 := rfl
set_option maxRecDepth 65536 in
theorem w_args : argsFit about1.vm theMethod args0 = true := by decide +kernel
set_option maxRecDepth 65536 in
theorem w_heap : heapFits about1 = true := by decide +kernel
set_option maxRecDepth 65536 in
theorem w_runnable : about1.curStatus? = some .runnable := by decide +kernel
set_option maxRecDepth 65536 in
theorem w_alone : about1.alone = true := by decide +kernel
set_option maxRecDepth 65536 in
theorem w_named : about1.methodNamed? x = some theMethod := by decide +kernel
set_option maxRecDepth 65536 in
theorem w_hears : about1.hears theMethod below0 = true := by decide +kernel
set_option maxRecDepth 65536 in
theorem w_ripe : about1.ripe theMethod args0 below0 = true := by decide +kernel
theorem w_running : about1.status = .running := rfl
set_option maxRecDepth 65536 in
theorem w_room : about1.hasRoom e0.platform room_1 = true :=
  launch0.hasRoom_least _ room_1 (by decide +kernel) (by decide +kernel) (by decide +kernel) (by decide +kernel) (by decide +kernel) (by decide +kernel)
theorem allAtoms_all (ts : List Jvm.Cond) (a : Array Jvm.Value) (st : Jvm.State) : (allAtoms ts).before a st = ts.all (fun c => c.before a st) := by
  induction ts with
  | nil => rfl
  | cons c t ih =>
    show (Jvm.Cond.and c (allAtoms t)).before a st = _
    rw [Jvm.Cond.before_and, ih, List.all_cons]
def words1 : List Jvm.Cond := Jvm.Cond.code x code maxLocals ret :: tables_1
/-- a 'code' word, met by the world's own term for the bytes: nothing is compared byte by byte -/
theorem code_word {y : MethodName} {bytes : ByteArray} {mx : Nat} {rt : Option FieldType} {a : Array Value} {s : State} {m : MethodId} {meth : Method} {c : Code} (h1 : s.methodNamed? y = some m) (h2 : s.vm.method? m = some meth) (h3 : meth.code = some c) (h4 : c.code = bytes)
    (h5 : (c.maxLocals == mx && c.exceptionTable.isEmpty && decide (c.maxStack ≤ mostOperands) && decide (meth.sig.returnType = rt) && !meth.locks && decide (parseMethodDescriptor y.desc = some meth.sig)) = true) : (Jvm.Cond.code y bytes mx rt).before a s = true := by
  simp only [Bool.and_eq_true, beq_iff_eq, Bool.not_eq_true', decide_eq_true_eq] at h5
  obtain ⟨⟨⟨⟨⟨g1, g2⟩, g3⟩, g4⟩, g5⟩, g6⟩ := h5
  simp [Cond.before, Cond.holds, Cond.value, h1, h2, h3, h4, g1, g2, g3, g4, g5, g6]
def isCode : Jvm.Cond → Bool
  | .code _ _ _ _ => true
  | _ => false
theorem all_split {L : List Jvm.Cond} {P : Jvm.Cond → Bool} (h1 : L.all (fun c => isCode c || P c) = true) (h2 : ∀ c ∈ L.filter isCode, P c = true) : L.all P = true := by
  refine List.all_eq_true.mpr fun c hc => ?_
  have h := List.all_eq_true.mp h1 c hc
  rcases Bool.eq_false_or_eq_true (isCode c) with hi | hi
  · exact h2 c (List.mem_filter.mpr ⟨hc, hi⟩)
  · simpa [hi] using h
set_option maxRecDepth 65536 in
theorem w_c0 : (Jvm.Cond.code x code maxLocals ret).before args0 about1 = true := code_word (m := ⟨1, 1⟩) (meth := k1m1) (c := k1c1) (by decide +kernel) rfl rfl rfl (by decide +kernel)
set_option maxRecDepth 65536 in
theorem w_c1 : (Jvm.Cond.code ({ cls := "com/example/sortition/sortition/Slots", name := "<init>", desc := "(I)V" } : Jvm.MethodName) prog_48_method_1_code (2 : Nat) (Option.none : Option Jvm.ClassFile.FieldType)).before args0 about1 = true := code_word (m := ⟨5, 0⟩) (meth := k5m0) (c := k5c0) (by decide +kernel) rfl rfl rfl (by decide +kernel)
set_option maxRecDepth 65536 in
theorem w_c2 : (Jvm.Cond.code ({ cls := "java/lang/Record", name := "<init>", desc := "()V" } : Jvm.MethodName) jdk_30_method_1_code (1 : Nat) (Option.none : Option Jvm.ClassFile.FieldType)).before args0 about1 = true := code_word (m := ⟨2, 0⟩) (meth := k2m0) (c := k2c0) (by decide +kernel) rfl rfl rfl (by decide +kernel)
set_option maxRecDepth 65536 in
theorem w_c3 : (Jvm.Cond.code ({ cls := "java/lang/Object", name := "<init>", desc := "()V" } : Jvm.MethodName) object_method_1_code (1 : Nat) (Option.none : Option Jvm.ClassFile.FieldType)).before args0 about1 = true := code_word (m := ⟨0, 0⟩) (meth := k0m0) (c := k0c0) (by decide +kernel) rfl rfl rfl (by decide +kernel)
set_option maxRecDepth 65536 in
theorem w_c4 : (Jvm.Cond.code ({ cls := "com/example/sortition/sortition/Element", name := "<init>", desc := "(ILjava/lang/String;D)V" } : Jvm.MethodName) prog_24_method_1_code (5 : Nat) (Option.none : Option Jvm.ClassFile.FieldType)).before args0 about1 = true := code_word (m := ⟨6, 0⟩) (meth := k6m0) (c := k6c0) (by decide +kernel) rfl rfl rfl (by decide +kernel)
set_option maxRecDepth 65536 in
theorem w_c5 : (Jvm.Cond.code ({ cls := "java/util/Objects", name := "requireNonNull", desc := "(Ljava/lang/Object;Ljava/lang/String;)Ljava/lang/Object;" } : Jvm.MethodName) jdk_31_method_11_code (2 : Nat) (Option.some (Jvm.ClassFile.FieldType.object "java/lang/Object"))).before args0 about1 = true := code_word (m := ⟨13, 1⟩) (meth := k13m1) (c := k13c1) (by decide +kernel) rfl rfl rfl (by decide +kernel)
set_option maxRecDepth 65536 in
theorem w_c6 : (Jvm.Cond.code ({ cls := "java/lang/String", name := "isEmpty", desc := "()Z" } : Jvm.MethodName) jdk_42_method_55_code (1 : Nat) (Option.some Jvm.ClassFile.FieldType.boolean)).before args0 about1 = true := code_word (m := ⟨12, 1⟩) (meth := k12m1) (c := k12c1) (by decide +kernel) rfl rfl rfl (by decide +kernel)
set_option maxRecDepth 65536 in
theorem w_c7 : (Jvm.Cond.code ({ cls := "java/util/ArrayList", name := "<init>", desc := "()V" } : Jvm.MethodName) jdk_38_method_2_code (1 : Nat) (Option.none : Option Jvm.ClassFile.FieldType)).before args0 about1 = true := code_word (m := ⟨22, 0⟩) (meth := k22m0) (c := k22c0) (by decide +kernel) rfl rfl rfl (by decide +kernel)
set_option maxRecDepth 65536 in
theorem w_c8 : (Jvm.Cond.code ({ cls := "java/util/AbstractList", name := "<init>", desc := "()V" } : Jvm.MethodName) jdk_39_method_1_code (1 : Nat) (Option.none : Option Jvm.ClassFile.FieldType)).before args0 about1 = true := code_word (m := ⟨19, 0⟩) (meth := k19m0) (c := k19c0) (by decide +kernel) rfl rfl rfl (by decide +kernel)
set_option maxRecDepth 65536 in
theorem w_c9 : (Jvm.Cond.code ({ cls := "java/util/AbstractCollection", name := "<init>", desc := "()V" } : Jvm.MethodName) jdk_22_method_1_code (1 : Nat) (Option.none : Option Jvm.ClassFile.FieldType)).before args0 about1 = true := code_word (m := ⟨16, 0⟩) (meth := k16m0) (c := k16c0) (by decide +kernel) rfl rfl rfl (by decide +kernel)
set_option maxRecDepth 65536 in
theorem w_c10 : (Jvm.Cond.code ({ cls := "java/util/ArrayList", name := "add", desc := "(Ljava/lang/Object;)Z" } : Jvm.MethodName) jdk_38_method_25_code (2 : Nat) (Option.some Jvm.ClassFile.FieldType.boolean)).before args0 about1 = true := code_word (m := ⟨22, 5⟩) (meth := k22m5) (c := k22c5) (by decide +kernel) rfl rfl rfl (by decide +kernel)
set_option maxRecDepth 65536 in
theorem w_c11 : (Jvm.Cond.code ({ cls := "java/util/ArrayList", name := "add", desc := "(Ljava/lang/Object;[Ljava/lang/Object;I)V" } : Jvm.MethodName) jdk_38_method_24_code (4 : Nat) (Option.none : Option Jvm.ClassFile.FieldType)).before args0 about1 = true := code_word (m := ⟨22, 4⟩) (meth := k22m4) (c := k22c4) (by decide +kernel) rfl rfl rfl (by decide +kernel)
set_option maxRecDepth 65536 in
theorem w_c12 : (Jvm.Cond.code ({ cls := "java/util/ArrayList", name := "grow", desc := "()[Ljava/lang/Object;" } : Jvm.MethodName) jdk_38_method_7_code (1 : Nat) (Option.some (Jvm.ClassFile.FieldType.array (Jvm.ClassFile.FieldType.object "java/lang/Object")))).before args0 about1 = true := code_word (m := ⟨22, 2⟩) (meth := k22m2) (c := k22c2) (by decide +kernel) rfl rfl rfl (by decide +kernel)
set_option maxRecDepth 65536 in
theorem w_c13 : (Jvm.Cond.code ({ cls := "java/util/ArrayList", name := "grow", desc := "(I)[Ljava/lang/Object;" } : Jvm.MethodName) jdk_38_method_6_code (4 : Nat) (Option.some (Jvm.ClassFile.FieldType.array (Jvm.ClassFile.FieldType.object "java/lang/Object")))).before args0 about1 = true := code_word (m := ⟨22, 1⟩) (meth := k22m1) (c := k22c1) (by decide +kernel) rfl rfl rfl (by decide +kernel)
set_option maxRecDepth 65536 in
theorem w_c14 : (Jvm.Cond.code ({ cls := "java/lang/Math", name := "max", desc := "(II)I" } : Jvm.MethodName) jdk_29_method_65_code (2 : Nat) (Option.some Jvm.ClassFile.FieldType.int)).before args0 about1 = true := code_word (m := ⟨23, 1⟩) (meth := k23m1) (c := k23c1) (by decide +kernel) rfl rfl rfl (by decide +kernel)
set_option maxRecDepth 65536 in
theorem w_c15 : (Jvm.Cond.code ({ cls := "com/example/sortition/sortition/Slots", name := "allows", desc := "(Ljava/util/List;)Z" } : Jvm.MethodName) prog_48_method_2_code (2 : Nat) (Option.some Jvm.ClassFile.FieldType.boolean)).before args0 about1 = true := code_word (m := ⟨5, 1⟩) (meth := k5m1) (c := k5c1) (by decide +kernel) rfl rfl rfl (by decide +kernel)
set_option maxRecDepth 65536 in
theorem w_c16 : (Jvm.Cond.code ({ cls := "java/util/ArrayList", name := "size", desc := "()I" } : Jvm.MethodName) jdk_38_method_8_code (1 : Nat) (Option.some Jvm.ClassFile.FieldType.int)).before args0 about1 = true := code_word (m := ⟨22, 3⟩) (meth := k22m3) (c := k22c3) (by decide +kernel) rfl rfl rfl (by decide +kernel)
def codes1 : List Jvm.Cond := [Jvm.Cond.code x code maxLocals ret, Jvm.Cond.code ({ cls := "com/example/sortition/sortition/Slots", name := "<init>", desc := "(I)V" } : Jvm.MethodName) prog_48_method_1_code (2 : Nat) (Option.none : Option Jvm.ClassFile.FieldType), Jvm.Cond.code ({ cls := "java/lang/Record", name := "<init>", desc := "()V" } : Jvm.MethodName) jdk_30_method_1_code (1 : Nat) (Option.none : Option Jvm.ClassFile.FieldType), Jvm.Cond.code ({ cls := "java/lang/Object", name := "<init>", desc := "()V" } : Jvm.MethodName) object_method_1_code (1 : Nat) (Option.none : Option Jvm.ClassFile.FieldType), Jvm.Cond.code ({ cls := "com/example/sortition/sortition/Element", name := "<init>", desc := "(ILjava/lang/String;D)V" } : Jvm.MethodName) prog_24_method_1_code (5 : Nat) (Option.none : Option Jvm.ClassFile.FieldType), Jvm.Cond.code ({ cls := "java/util/Objects", name := "requireNonNull", desc := "(Ljava/lang/Object;Ljava/lang/String;)Ljava/lang/Object;" } : Jvm.MethodName) jdk_31_method_11_code (2 : Nat) (Option.some (Jvm.ClassFile.FieldType.object "java/lang/Object")), Jvm.Cond.code ({ cls := "java/lang/String", name := "isEmpty", desc := "()Z" } : Jvm.MethodName) jdk_42_method_55_code (1 : Nat) (Option.some Jvm.ClassFile.FieldType.boolean), Jvm.Cond.code ({ cls := "java/util/ArrayList", name := "<init>", desc := "()V" } : Jvm.MethodName) jdk_38_method_2_code (1 : Nat) (Option.none : Option Jvm.ClassFile.FieldType), Jvm.Cond.code ({ cls := "java/util/AbstractList", name := "<init>", desc := "()V" } : Jvm.MethodName) jdk_39_method_1_code (1 : Nat) (Option.none : Option Jvm.ClassFile.FieldType), Jvm.Cond.code ({ cls := "java/util/AbstractCollection", name := "<init>", desc := "()V" } : Jvm.MethodName) jdk_22_method_1_code (1 : Nat) (Option.none : Option Jvm.ClassFile.FieldType), Jvm.Cond.code ({ cls := "java/util/ArrayList", name := "add", desc := "(Ljava/lang/Object;)Z" } : Jvm.MethodName) jdk_38_method_25_code (2 : Nat) (Option.some Jvm.ClassFile.FieldType.boolean), Jvm.Cond.code ({ cls := "java/util/ArrayList", name := "add", desc := "(Ljava/lang/Object;[Ljava/lang/Object;I)V" } : Jvm.MethodName) jdk_38_method_24_code (4 : Nat) (Option.none : Option Jvm.ClassFile.FieldType), Jvm.Cond.code ({ cls := "java/util/ArrayList", name := "grow", desc := "()[Ljava/lang/Object;" } : Jvm.MethodName) jdk_38_method_7_code (1 : Nat) (Option.some (Jvm.ClassFile.FieldType.array (Jvm.ClassFile.FieldType.object "java/lang/Object"))), Jvm.Cond.code ({ cls := "java/util/ArrayList", name := "grow", desc := "(I)[Ljava/lang/Object;" } : Jvm.MethodName) jdk_38_method_6_code (4 : Nat) (Option.some (Jvm.ClassFile.FieldType.array (Jvm.ClassFile.FieldType.object "java/lang/Object"))), Jvm.Cond.code ({ cls := "java/lang/Math", name := "max", desc := "(II)I" } : Jvm.MethodName) jdk_29_method_65_code (2 : Nat) (Option.some Jvm.ClassFile.FieldType.int), Jvm.Cond.code ({ cls := "com/example/sortition/sortition/Slots", name := "allows", desc := "(Ljava/util/List;)Z" } : Jvm.MethodName) prog_48_method_2_code (2 : Nat) (Option.some Jvm.ClassFile.FieldType.boolean), Jvm.Cond.code ({ cls := "java/util/ArrayList", name := "size", desc := "()I" } : Jvm.MethodName) jdk_38_method_8_code (1 : Nat) (Option.some Jvm.ClassFile.FieldType.int)]
set_option maxRecDepth 65536 in
theorem codes_eq : words1.filter isCode = codes1 := rfl
theorem w_codes : ∀ c ∈ words1.filter isCode, c.before args0 about1 = true := by
  rw [codes_eq]
  intro c hc
  simp only [codes1, List.mem_cons, List.not_mem_nil, or_false] at hc
  rcases hc with rfl | rfl | rfl | rfl | rfl | rfl | rfl | rfl | rfl | rfl | rfl | rfl | rfl | rfl | rfl | rfl | rfl
  · exact w_c0
  · exact w_c1
  · exact w_c2
  · exact w_c3
  · exact w_c4
  · exact w_c5
  · exact w_c6
  · exact w_c7
  · exact w_c8
  · exact w_c9
  · exact w_c10
  · exact w_c11
  · exact w_c12
  · exact w_c13
  · exact w_c14
  · exact w_c15
  · exact w_c16
set_option maxRecDepth 65536 in
theorem w_t1 : (words1.take 24).all (fun c => isCode c || c.before args0 about1) = true := by decide +kernel
set_option maxRecDepth 65536 in
theorem w_t2 : ((words1.drop 24).take 24).all (fun c => isCode c || c.before args0 about1) = true := by decide +kernel
set_option maxRecDepth 65536 in
theorem w_t3 : (((words1.drop 24).drop 24).take 24).all (fun c => isCode c || c.before args0 about1) = true := by decide +kernel
set_option maxRecDepth 65536 in
theorem w_t4 : ((((words1.drop 24).drop 24).drop 24).take 24).all (fun c => isCode c || c.before args0 about1) = true := by decide +kernel
set_option maxRecDepth 65536 in
theorem w_t5 : ((((words1.drop 24).drop 24).drop 24).drop 24).all (fun c => isCode c || c.before args0 about1) = true := by decide +kernel
theorem w_tables : (allAtoms (Jvm.Cond.code x code maxLocals ret :: tables_1)).before args0 about1 = true := by
  rw [allAtoms_all]
  show words1.all (fun c => c.before args0 about1) = true
  refine all_split ?_ w_codes
  rw [← List.take_append_drop 24 words1, List.all_append, w_t1, ← List.take_append_drop 24 (words1.drop 24), List.all_append, w_t2, ← List.take_append_drop 24 ((words1.drop 24).drop 24), List.all_append, w_t3, ← List.take_append_drop 24 (((words1.drop 24).drop 24).drop 24), List.all_append, w_t4, w_t5]
  rfl
set_option maxRecDepth 65536 in
theorem w_rest : rest_1_c.before args0 about1 = true := by decide +kernel
set_option maxRecDepth 65536 in
theorem w_case : (Jvm.Cond.and given_1 narrow_1).before args0 about1 = true := by decide +kernel
set_option maxRecDepth 65536 in
theorem w_consts : constsHeld consts_1 about1 := Jvm.Lit.constsHeldB_iff.mp (by decide +kernel)
theorem w_applies : (headSpec (Jvm.Cond.code x code maxLocals ret :: tables_1) room_1).applies x e0.platform about1 = true :=
  (Spec.applies_iff w_frames).mpr ⟨w_running, w_runnable, w_alone, w_named, w_hears, w_ripe, w_room, w_tables⟩
theorem atStart : AtStart classFile x code maxLocals ret World_1 tables_1 room_1 Calls_1 rest_1 Pre_1 launch0 p0 e0 about1 theMethod args0 below0 :=
  ⟨lists_1, trivial, launch0.admits_env _ _ _, launch0.least_env, fairChoices_fair.cas, fairChoices_fair.clock, w_frames, w_args, w_heap, w_applies, ⟨w_consts, trivial⟩, w_rest, w_case⟩
end start1
theorem witness_1 : WitnessClaimed_1 := ⟨start1.p0, start1.e0, start1.about1, start1.theMethod, start1.args0, start1.below0, start1.atStart⟩
end Jvm.Pilot.@@N@@
