import JvmDerived
import JvmDerived.Pilot.@@N@@Statement
import JvmDerived.Pilot.@@N@@Code
set_option linter.unusedVariables false
set_option linter.unusedSimpArgs false
namespace Jvm.RoadKit
open Sem ClassFile Op Lib Jvm.Stand Jvm.Free Jvm.LawKit
section New
variable {p : Program} {l : Launch} {e : Env} {R : Room} {s : State} {m : MethodId} {args : Array Value} {below : List Frame} {meth : Method} {c : Code} {T : State} {locs : List Loc} {cells slots : Nat}
theorem retI (X : Stand p l e R s m args below meth c T locs cells slots) (hx : p.tables.exec = Jvm.exec) {pc : Nat} {Ls : Array Slot} {z : Int32} {rest : List Value} (hret : meth.sig.returnType = some .int) (hd : decode c.code pc = .ok (.ireturn, 1)) {fs : List Frame}
    (hl : ∀ (f : JFrame) (acts : List Action), f.method = m → f.locked = none → f.entered = [] → (doReturn e (T.setTop f) acts (some (.int z))).1 = T.setFrames fs) : Steps p.tables e below (T.setTop (mkF m pc Ls (.int z :: rest))) (T.setFrames fs) := by
  have hm' : T.vm.method? m = some meth := X.method'
  have hn : narrow .int (.int z) = .int z := rfl
  show Steps p.tables e below (T.setTop { method := m, pc := pc, locals := Ls, stack := _ :: rest, locked := none }) _
  jvm_step X.here [X.here.top, hx, hd, hm', hret, hn]
  first | (intro acts; rw [hl _ acts rfl rfl rfl]) | rw [hl _ _ rfl rfl rfl]
  exact Steps.refl _
end New
end Jvm.RoadKit
namespace Jvm.Pilot.@@N@@
open Jvm Jvm.ClassFile Sem Op Lib Jvm.Free Jvm.Stand Jvm.LawKit Jvm.RoadKit Bundle Jvm.Free.Fl Jvm.Pilot.@@N@@.Jvm.D
theorem d0_0 : decode jdk_30_method_1_code 0 = .ok (.aload_n 0, 1) := by decide +kernel
theorem d0_1 : decode jdk_30_method_1_code 1 = .ok (.invokespecial 1, 3) := by decide +kernel
theorem d0_4 : decode jdk_30_method_1_code 4 = .ok (.return_, 1) := by decide +kernel
theorem pn_0 : plainName "java/lang/Record" = true := by first | (simp [plainName, overriddenIn]; done) | decide +kernel
def Q_rmR (Z : State) (ob : Addr) (h0 : Heap) (n0 : Nat) (v : Option Value) (h : Heap) (L : List Loc) : Prop := v = none ∧ Fr n0 L ∧ h = h0
theorem ef_rmR (m : MethodId) (ob : Addr) : entryFrame m #[(.ref ob)] 1 = mkF m 0 #[.val (.ref ob)] [] := by first | (simp [entryFrame, mkF, argsToLocals, Value.category]; done) | rfl
set_option maxRecDepth 65536 in
set_option maxHeartbeats 40000000 in
theorem rmR (l : Launch) (Z : State) (a0 : Array Value) (hw : ∀ d ∈ tables_1, d.before a0 Z = true) (ws : List Jvm.Cond) (ob : Addr) (h0 : Heap) (n0 : Nat) (Z0 : n0 ≤ h0.size) :
    MetFree l (⟨"java/lang/Record", "<init>", "()V"⟩ : MethodName) (head1 (Jvm.Cond.code (⟨"java/lang/Record", "<init>", "()V"⟩ : MethodName) jdk_30_method_1_code 1 none :: ws) ({ frames := 1, cells := 0, slots := 0, locals := 12 } : Room)) (fun a U => a = #[(.ref ob)] ∧ Z.Warmed39 U.vm ∧ U.heap = h0) (fun _ _ _ _ _ => True) (fun _ U o U' => ∃ v L, o = .returned v ∧ Q_rmR Z ob h0 n0 v U'.heap L ∧ FrameEnd U o U' L ({ frames := 1, cells := 0, slots := 0, locals := 12 } : Room).cells ({ frames := 1, cells := 0, slots := 0, locals := 12 } : Room).slots) := by
  refine MetFree.of_bodySF (plainFor_of_name pn_0) hisR ?_
  intro p e s m args below meth c s₁ Bd hml0 hP hK
  obtain ⟨rfl, hZ, hh⟩ := hP
  have hx := Bd.exec
  have hby := Bd.bytes
  have hml : c.maxLocals = 1 := hml0
  have hown : s.vm.findClass "java/lang/Record" = some m.cls := findClass_of_methodNamed Bd.named
  have hnm := (name_of_methodNamed Bd.named Bd.method).1
  have X0 : Stand p l e ({ frames := 1, cells := 0, slots := 0, locals := 12 } : Room) s m #[(.ref ob)] below meth c s₁ [] 0 0 := Stand.of_body Bd
  have e0 : s₁.heap = h0 := by rw [← hh, Bd.state]; rfl
  have N0 := Fr.nil n0
  have pre0 : ∀ t, Steps p.tables e below (s₁.setTop (mkF m 0 #[.val (.ref ob)] [])) t → Steps p.tables e below (s₁.setTop (entryFrame m #[(.ref ob)] 1)) t := fun t k => castTop (ef_rmR m ob) k
  obtain ⟨T1, X1, e1, st1⟩ := initO X0 hx hZ hown (hw _ (List.mem_of_getElem? (i := 24) rfl)) (hw _ (List.mem_of_getElem? (i := 25) rfl)) (hw _ (List.mem_of_getElem? (i := 26) rfl)) e0 (g := (mkF m 1 #[.val (.ref ob)] [(.ref ob)])) rfl (by rw [hml]; rfl) rfl (hb hby d0_1) (by decide) (W := 0) (by show 2 * 0 + _ ≤ _; exact Nat.le_of_eq rfl) (by decide)
  obtain ⟨fs, hr, hrun, hended, hW, hsame⟩ := X1.leave (v := none) (fun _ => rfl)
  refine ⟨_, _, pre0 _ ?_, hrun, hended, _, _, rfl, ?_, ⟨_, rfl⟩, hW, hsame.mono (by decide) (by decide)⟩
  · show Steps p.tables e below (s₁.setTop (mkF m 0 #[.val (.ref ob)] [])) _
    refine XS.aloadN X0.here hx rfl (hb hby d0_0) rfl rfl ?_
    show Steps p.tables e below (s₁.setTop (mkF m 1 #[.val (.ref ob)] [(.ref ob)])) _
    refine st1 _ ?_
    show Steps p.tables e below (T1.setTop (mkF m 4 #[.val (.ref ob)] [])) _
    exact X1.returnOut hx Bd.returns (hb hby d0_4) hr
  · show Q_rmR Z ob h0 n0 _ T1.heap _
    rw [e1]
    exact ⟨rfl, N0, rfl⟩
theorem d1_0 : decode prog_8_method_1_code 0 = .ok (.aload_n 0, 1) := by decide +kernel
theorem d1_1 : decode prog_8_method_1_code 1 = .ok (.invokespecial 1, 3) := by decide +kernel
theorem pd_0 : parseMethodDescriptor "()V" = some ⟨[], none⟩ := by decide +kernel
theorem d1_4 : decode prog_8_method_1_code 4 = .ok (.aload_n 0, 1) := by decide +kernel
theorem d1_5 : decode prog_8_method_1_code 5 = .ok (.dload_n 1, 1) := by decide +kernel
theorem d1_6 : decode prog_8_method_1_code 6 = .ok (.putfield 7, 3) := by decide +kernel
theorem d1_9 : decode prog_8_method_1_code 9 = .ok (.aload_n 0, 1) := by decide +kernel
theorem d1_10 : decode prog_8_method_1_code 10 = .ok (.iload_n 3, 1) := by decide +kernel
theorem d1_11 : decode prog_8_method_1_code 11 = .ok (.putfield 13, 3) := by decide +kernel
theorem d1_14 : decode prog_8_method_1_code 14 = .ok (.aload_n 0, 1) := by decide +kernel
theorem d1_15 : decode prog_8_method_1_code 15 = .ok (.lload 4, 2) := by decide +kernel
theorem d1_17 : decode prog_8_method_1_code 17 = .ok (.putfield 17, 3) := by decide +kernel
theorem d1_20 : decode prog_8_method_1_code 20 = .ok (.aload_n 0, 1) := by decide +kernel
theorem d1_21 : decode prog_8_method_1_code 21 = .ok (.iload 6, 2) := by decide +kernel
theorem d1_23 : decode prog_8_method_1_code 23 = .ok (.putfield 21, 3) := by decide +kernel
theorem d1_26 : decode prog_8_method_1_code 26 = .ok (.aload_n 0, 1) := by decide +kernel
theorem d1_27 : decode prog_8_method_1_code 27 = .ok (.dload 7, 2) := by decide +kernel
theorem d1_29 : decode prog_8_method_1_code 29 = .ok (.putfield 24, 3) := by decide +kernel
theorem d1_32 : decode prog_8_method_1_code 32 = .ok (.aload_n 0, 1) := by decide +kernel
theorem d1_33 : decode prog_8_method_1_code 33 = .ok (.dload 9, 2) := by decide +kernel
theorem d1_35 : decode prog_8_method_1_code 35 = .ok (.putfield 27, 3) := by decide +kernel
theorem d1_38 : decode prog_8_method_1_code 38 = .ok (.aload_n 0, 1) := by decide +kernel
theorem d1_39 : decode prog_8_method_1_code 39 = .ok (.dload 11, 2) := by decide +kernel
theorem d1_41 : decode prog_8_method_1_code 41 = .ok (.putfield 30, 3) := by decide +kernel
theorem d1_44 : decode prog_8_method_1_code 44 = .ok (.aload_n 0, 1) := by decide +kernel
theorem d1_45 : decode prog_8_method_1_code 45 = .ok (.dload 13, 2) := by decide +kernel
theorem d1_47 : decode prog_8_method_1_code 47 = .ok (.putfield 33, 3) := by decide +kernel
theorem d1_50 : decode prog_8_method_1_code 50 = .ok (.aload_n 0, 1) := by decide +kernel
theorem d1_51 : decode prog_8_method_1_code 51 = .ok (.dload 15, 2) := by decide +kernel
theorem d1_53 : decode prog_8_method_1_code 53 = .ok (.putfield 36, 3) := by decide +kernel
theorem d1_56 : decode prog_8_method_1_code 56 = .ok (.aload_n 0, 1) := by decide +kernel
theorem d1_57 : decode prog_8_method_1_code 57 = .ok (.dload 17, 2) := by decide +kernel
theorem d1_59 : decode prog_8_method_1_code 59 = .ok (.putfield 39, 3) := by decide +kernel
theorem d1_62 : decode prog_8_method_1_code 62 = .ok (.aload_n 0, 1) := by decide +kernel
theorem d1_63 : decode prog_8_method_1_code 63 = .ok (.dload 19, 2) := by decide +kernel
theorem d1_65 : decode prog_8_method_1_code 65 = .ok (.putfield 42, 3) := by decide +kernel
theorem d1_68 : decode prog_8_method_1_code 68 = .ok (.aload_n 0, 1) := by decide +kernel
theorem d1_69 : decode prog_8_method_1_code 69 = .ok (.dload 21, 2) := by decide +kernel
theorem d1_71 : decode prog_8_method_1_code 71 = .ok (.putfield 45, 3) := by decide +kernel
theorem d1_74 : decode prog_8_method_1_code 74 = .ok (.aload_n 0, 1) := by decide +kernel
theorem d1_75 : decode prog_8_method_1_code 75 = .ok (.dload 23, 2) := by decide +kernel
theorem d1_77 : decode prog_8_method_1_code 77 = .ok (.putfield 48, 3) := by decide +kernel
theorem d1_80 : decode prog_8_method_1_code 80 = .ok (.aload_n 0, 1) := by decide +kernel
theorem d1_81 : decode prog_8_method_1_code 81 = .ok (.dload 25, 2) := by decide +kernel
theorem d1_83 : decode prog_8_method_1_code 83 = .ok (.putfield 51, 3) := by decide +kernel
theorem d1_86 : decode prog_8_method_1_code 86 = .ok (.aload_n 0, 1) := by decide +kernel
theorem d1_87 : decode prog_8_method_1_code 87 = .ok (.dload 27, 2) := by decide +kernel
theorem d1_89 : decode prog_8_method_1_code 89 = .ok (.putfield 54, 3) := by decide +kernel
theorem d1_92 : decode prog_8_method_1_code 92 = .ok (.aload_n 0, 1) := by decide +kernel
theorem d1_93 : decode prog_8_method_1_code 93 = .ok (.dload 29, 2) := by decide +kernel
theorem d1_95 : decode prog_8_method_1_code 95 = .ok (.putfield 57, 3) := by decide +kernel
theorem d1_98 : decode prog_8_method_1_code 98 = .ok (.aload_n 0, 1) := by decide +kernel
theorem d1_99 : decode prog_8_method_1_code 99 = .ok (.iload 31, 2) := by decide +kernel
theorem d1_101 : decode prog_8_method_1_code 101 = .ok (.putfield 60, 3) := by decide +kernel
theorem d1_104 : decode prog_8_method_1_code 104 = .ok (.return_, 1) := by decide +kernel
theorem pn_1 : plainName "com/example/tolc/tolc/ControllerSettings" = true := by first | (simp [plainName, overriddenIn]; done) | decide +kernel
def Q_rmI (Z : State) (ob : Addr) (v0 : UInt64) (v1 : Int32) (v2 : Int64) (v3 : Int32) (v4 : UInt64) (v5 : UInt64) (v6 : UInt64) (v7 : UInt64) (v8 : UInt64) (v9 : UInt64) (v10 : UInt64) (v11 : UInt64) (v12 : UInt64) (v13 : UInt64) (v14 : UInt64) (v15 : UInt64) (v16 : Int32) (u_targetP90Millis_ob : Value) (u_samplesPerRun_ob : Value) (u_timeoutMillis_ob : Value) (u_earlyRunSamples_ob : Value) (u_smoothing_ob : Value) (u_completionSmoothing_ob : Value) (u_cutAboveError_ob : Value) (u_cutDivisor_ob : Value) (u_raiseBelowError_ob : Value) (u_raiseFromError_ob : Value) (u_raiseStep_ob : Value) (u_minRatePerSecond_ob : Value) (u_maxRatePerSecond_ob : Value) (u_initialRatePerSecond_ob : Value) (u_demandReach_ob : Value) (u_lowerCutDivisor_ob : Value) (u_ownCutRuns_ob : Value) (h0 : Heap) (n0 : Nat) (v : Option Value) (h : Heap) (L : List Loc) : Prop := v = none ∧ Fr n0 L ∧ Keep h0 h [ob] ∧ Exa Z h ob "com/example/tolc/tolc/ControllerSettings" ∧ Fld Z h ob "com/example/tolc/tolc/ControllerSettings" "targetP90Millis" "D" (.double v0) ∧ Fld Z h ob "com/example/tolc/tolc/ControllerSettings" "samplesPerRun" "I" (.int v1) ∧ Fld Z h ob "com/example/tolc/tolc/ControllerSettings" "timeoutMillis" "J" (.long v2) ∧ Fld Z h ob "com/example/tolc/tolc/ControllerSettings" "earlyRunSamples" "I" (.int v3) ∧ Fld Z h ob "com/example/tolc/tolc/ControllerSettings" "smoothing" "D" (.double v4) ∧ Fld Z h ob "com/example/tolc/tolc/ControllerSettings" "completionSmoothing" "D" (.double v5) ∧ Fld Z h ob "com/example/tolc/tolc/ControllerSettings" "cutAboveError" "D" (.double v6) ∧ Fld Z h ob "com/example/tolc/tolc/ControllerSettings" "cutDivisor" "D" (.double v7) ∧ Fld Z h ob "com/example/tolc/tolc/ControllerSettings" "raiseBelowError" "D" (.double v8) ∧ Fld Z h ob "com/example/tolc/tolc/ControllerSettings" "raiseFromError" "D" (.double v9) ∧ Fld Z h ob "com/example/tolc/tolc/ControllerSettings" "raiseStep" "D" (.double v10) ∧ Fld Z h ob "com/example/tolc/tolc/ControllerSettings" "minRatePerSecond" "D" (.double v11) ∧ Fld Z h ob "com/example/tolc/tolc/ControllerSettings" "maxRatePerSecond" "D" (.double v12) ∧ Fld Z h ob "com/example/tolc/tolc/ControllerSettings" "initialRatePerSecond" "D" (.double v13) ∧ Fld Z h ob "com/example/tolc/tolc/ControllerSettings" "demandReach" "D" (.double v14) ∧ Fld Z h ob "com/example/tolc/tolc/ControllerSettings" "lowerCutDivisor" "D" (.double v15) ∧ Fld Z h ob "com/example/tolc/tolc/ControllerSettings" "ownCutRuns" "I" (.int v16)
theorem ef_rmI (m : MethodId) (ob : Addr) (v0 : UInt64) (v1 : Int32) (v2 : Int64) (v3 : Int32) (v4 : UInt64) (v5 : UInt64) (v6 : UInt64) (v7 : UInt64) (v8 : UInt64) (v9 : UInt64) (v10 : UInt64) (v11 : UInt64) (v12 : UInt64) (v13 : UInt64) (v14 : UInt64) (v15 : UInt64) (v16 : Int32) : entryFrame m #[(.ref ob), (.double v0), (.int v1), (.long v2), (.int v3), (.double v4), (.double v5), (.double v6), (.double v7), (.double v8), (.double v9), (.double v10), (.double v11), (.double v12), (.double v13), (.double v14), (.double v15), (.int v16)] 32 = mkF m 0 #[.val (.ref ob), .val (.double v0), .second, .val (.int v1), .val (.long v2), .second, .val (.int v3), .val (.double v4), .second, .val (.double v5), .second, .val (.double v6), .second, .val (.double v7), .second, .val (.double v8), .second, .val (.double v9), .second, .val (.double v10), .second, .val (.double v11), .second, .val (.double v12), .second, .val (.double v13), .second, .val (.double v14), .second, .val (.double v15), .second, .val (.int v16)] [] := by first | (simp [entryFrame, mkF, argsToLocals, Value.category]; done) | rfl
set_option maxRecDepth 65536 in
set_option maxHeartbeats 40000000 in
theorem rmI (l : Launch) (Z : State) (a0 : Array Value) (hw : ∀ d ∈ tables_1, d.before a0 Z = true) (ws : List Jvm.Cond) (ob : Addr) (v0 : UInt64) (v1 : Int32) (v2 : Int64) (v3 : Int32) (v4 : UInt64) (v5 : UInt64) (v6 : UInt64) (v7 : UInt64) (v8 : UInt64) (v9 : UInt64) (v10 : UInt64) (v11 : UInt64) (v12 : UInt64) (v13 : UInt64) (v14 : UInt64) (v15 : UInt64) (v16 : Int32) (u_targetP90Millis_ob : Value) (u_samplesPerRun_ob : Value) (u_timeoutMillis_ob : Value) (u_earlyRunSamples_ob : Value) (u_smoothing_ob : Value) (u_completionSmoothing_ob : Value) (u_cutAboveError_ob : Value) (u_cutDivisor_ob : Value) (u_raiseBelowError_ob : Value) (u_raiseFromError_ob : Value) (u_raiseStep_ob : Value) (u_minRatePerSecond_ob : Value) (u_maxRatePerSecond_ob : Value) (u_initialRatePerSecond_ob : Value) (u_demandReach_ob : Value) (u_lowerCutDivisor_ob : Value) (u_ownCutRuns_ob : Value) (h0 : Heap) (n0 : Nat) (Z0 : n0 ≤ h0.size) (F_targetP90Millis_ob : Fld Z h0 ob "com/example/tolc/tolc/ControllerSettings" "targetP90Millis" "D" u_targetP90Millis_ob) (E_ob : Exa Z h0 ob "com/example/tolc/tolc/ControllerSettings") (g_ob : n0 ≤ ob) (F_samplesPerRun_ob : Fld Z h0 ob "com/example/tolc/tolc/ControllerSettings" "samplesPerRun" "I" u_samplesPerRun_ob) (F_timeoutMillis_ob : Fld Z h0 ob "com/example/tolc/tolc/ControllerSettings" "timeoutMillis" "J" u_timeoutMillis_ob) (F_earlyRunSamples_ob : Fld Z h0 ob "com/example/tolc/tolc/ControllerSettings" "earlyRunSamples" "I" u_earlyRunSamples_ob) (F_smoothing_ob : Fld Z h0 ob "com/example/tolc/tolc/ControllerSettings" "smoothing" "D" u_smoothing_ob) (F_completionSmoothing_ob : Fld Z h0 ob "com/example/tolc/tolc/ControllerSettings" "completionSmoothing" "D" u_completionSmoothing_ob) (F_cutAboveError_ob : Fld Z h0 ob "com/example/tolc/tolc/ControllerSettings" "cutAboveError" "D" u_cutAboveError_ob) (F_cutDivisor_ob : Fld Z h0 ob "com/example/tolc/tolc/ControllerSettings" "cutDivisor" "D" u_cutDivisor_ob) (F_raiseBelowError_ob : Fld Z h0 ob "com/example/tolc/tolc/ControllerSettings" "raiseBelowError" "D" u_raiseBelowError_ob) (F_raiseFromError_ob : Fld Z h0 ob "com/example/tolc/tolc/ControllerSettings" "raiseFromError" "D" u_raiseFromError_ob) (F_raiseStep_ob : Fld Z h0 ob "com/example/tolc/tolc/ControllerSettings" "raiseStep" "D" u_raiseStep_ob) (F_minRatePerSecond_ob : Fld Z h0 ob "com/example/tolc/tolc/ControllerSettings" "minRatePerSecond" "D" u_minRatePerSecond_ob) (F_maxRatePerSecond_ob : Fld Z h0 ob "com/example/tolc/tolc/ControllerSettings" "maxRatePerSecond" "D" u_maxRatePerSecond_ob) (F_initialRatePerSecond_ob : Fld Z h0 ob "com/example/tolc/tolc/ControllerSettings" "initialRatePerSecond" "D" u_initialRatePerSecond_ob) (F_demandReach_ob : Fld Z h0 ob "com/example/tolc/tolc/ControllerSettings" "demandReach" "D" u_demandReach_ob) (F_lowerCutDivisor_ob : Fld Z h0 ob "com/example/tolc/tolc/ControllerSettings" "lowerCutDivisor" "D" u_lowerCutDivisor_ob) (F_ownCutRuns_ob : Fld Z h0 ob "com/example/tolc/tolc/ControllerSettings" "ownCutRuns" "I" u_ownCutRuns_ob) :
    MetFree l (⟨"com/example/tolc/tolc/ControllerSettings", "<init>", "(DIJIDDDDDDDDDDDDI)V"⟩ : MethodName) (head1 (Jvm.Cond.code (⟨"com/example/tolc/tolc/ControllerSettings", "<init>", "(DIJIDDDDDDDDDDDDI)V"⟩ : MethodName) prog_8_method_1_code 32 none :: ws) ({ frames := 2, cells := 0, slots := 0, locals := 24 } : Room)) (fun a U => a = #[(.ref ob), (.double v0), (.int v1), (.long v2), (.int v3), (.double v4), (.double v5), (.double v6), (.double v7), (.double v8), (.double v9), (.double v10), (.double v11), (.double v12), (.double v13), (.double v14), (.double v15), (.int v16)] ∧ Z.Warmed39 U.vm ∧ U.heap = h0) (fun _ _ _ _ _ => True) (fun _ U o U' => ∃ v L, o = .returned v ∧ Q_rmI Z ob v0 v1 v2 v3 v4 v5 v6 v7 v8 v9 v10 v11 v12 v13 v14 v15 v16 u_targetP90Millis_ob u_samplesPerRun_ob u_timeoutMillis_ob u_earlyRunSamples_ob u_smoothing_ob u_completionSmoothing_ob u_cutAboveError_ob u_cutDivisor_ob u_raiseBelowError_ob u_raiseFromError_ob u_raiseStep_ob u_minRatePerSecond_ob u_maxRatePerSecond_ob u_initialRatePerSecond_ob u_demandReach_ob u_lowerCutDivisor_ob u_ownCutRuns_ob h0 n0 v U'.heap L ∧ FrameEnd U o U' L ({ frames := 2, cells := 0, slots := 0, locals := 24 } : Room).cells ({ frames := 2, cells := 0, slots := 0, locals := 24 } : Room).slots) := by
  refine MetFree.of_bodySF (plainFor_of_name pn_1) hisR ?_
  intro p e s m args below meth c s₁ Bd hml0 hP hK
  obtain ⟨rfl, hZ, hh⟩ := hP
  have hx := Bd.exec
  have hby := Bd.bytes
  have hml : c.maxLocals = 32 := hml0
  have hown : s.vm.findClass "com/example/tolc/tolc/ControllerSettings" = some m.cls := findClass_of_methodNamed Bd.named
  have hnm := (name_of_methodNamed Bd.named Bd.method).1
  have X0 : Stand p l e ({ frames := 2, cells := 0, slots := 0, locals := 24 } : Room) s m #[(.ref ob), (.double v0), (.int v1), (.long v2), (.int v3), (.double v4), (.double v5), (.double v6), (.double v7), (.double v8), (.double v9), (.double v10), (.double v11), (.double v12), (.double v13), (.double v14), (.double v15), (.int v16)] below meth c s₁ [] 0 0 := Stand.of_body Bd
  have e0 : s₁.heap = h0 := by rw [← hh, Bd.state]; rfl
  have N0 := Fr.nil n0
  have pre0 : ∀ t, Steps p.tables e below (s₁.setTop (mkF m 0 #[.val (.ref ob), .val (.double v0), .second, .val (.int v1), .val (.long v2), .second, .val (.int v3), .val (.double v4), .second, .val (.double v5), .second, .val (.double v6), .second, .val (.double v7), .second, .val (.double v8), .second, .val (.double v9), .second, .val (.double v10), .second, .val (.double v11), .second, .val (.double v12), .second, .val (.double v13), .second, .val (.double v14), .second, .val (.double v15), .second, .val (.int v16)] [])) t → Steps p.tables e below (s₁.setTop (entryFrame m #[(.ref ob), (.double v0), (.int v1), (.long v2), (.int v3), (.double v4), (.double v5), (.double v6), (.double v7), (.double v8), (.double v9), (.double v10), (.double v11), (.double v12), (.double v13), (.double v14), (.double v15), (.int v16)] 32)) t := fun t k => castTop (ef_rmI m ob v0 v1 v2 v3 v4 v5 v6 v7 v8 v9 v10 v11 v12 v13 v14 v15 v16) k
  obtain ⟨_, _, ⟨T1, L1, k1, n1⟩, -, X1, ⟨Lc1, hQ1, l1, y1, z1⟩, st1⟩ := X0.specialBack hx (y := (⟨"java/lang/Record", "<init>", "()V"⟩ : MethodName)) rfl hown (mvT hZ (hw _ (List.mem_of_getElem? (i := 19) rfl))) (mvT hZ (hw _ (List.mem_of_getElem? (i := 20) rfl))) (mvT hZ (hw _ (List.mem_of_getElem? (i := 23) rfl))) (by decide) (backOf (W := 0) (rmR l Z a0 hw [] ob h0 n0 Z0) hZ (hw _ (List.mem_of_getElem? (i := 23) rfl)) (hw _ (List.mem_of_getElem? (i := 22) rfl)) (by decide) (by decide)) (g := (mkF m 1 #[.val (.ref ob), .val (.double v0), .second, .val (.int v1), .val (.long v2), .second, .val (.int v3), .val (.double v4), .second, .val (.double v5), .second, .val (.double v6), .second, .val (.double v7), .second, .val (.double v8), .second, .val (.double v9), .second, .val (.double v10), .second, .val (.double v11), .second, .val (.double v12), .second, .val (.double v13), .second, .val (.double v14), .second, .val (.double v15), .second, .val (.int v16)] [(.ref ob)])) rfl (by rw [hml]; rfl) (Steps.refl _) (a := ob) (argsL := []) (rest := []) (lenOf pd_0 rfl) rfl (by show 2 * 0 + _ ≤ _; exact Nat.le_of_eq rfl) (hb hby d1_1) (fun _ _ => ⟨rfl, e0, (by decide : 0 + 0 ≤ _), (by decide : 0 + 0 ≤ _)⟩)
  dsimp only [Pt.U, Pt.locs, Pt.cells, Pt.slots] at X1 l1 y1 z1 st1 hQ1
  subst l1 y1 z1
  obtain ⟨rfl, Nq1, e1⟩ := hQ1
  have N1 := Fr.app N0 Nq1
  obtain ⟨T2, h2, X2, e2, W2, st2⟩ := putF X1 hx hZ hown (host := "") (Or.inl (hw _ (List.mem_of_getElem? (i := 27) rfl))) Via.refl e1 F_targetP90Millis_ob E_ob (Or.inr ⟨(hw _ (List.mem_of_getElem? (i := 28) rfl)), rfl, hnm⟩) (hw _ (List.mem_of_getElem? (i := 6) rfl)) (ty := .double) (by decide) rfl rfl (g := (mkF m 6 #[.val (.ref ob), .val (.double v0), .second, .val (.int v1), .val (.long v2), .second, .val (.int v3), .val (.double v4), .second, .val (.double v5), .second, .val (.double v6), .second, .val (.double v7), .second, .val (.double v8), .second, .val (.double v9), .second, .val (.double v10), .second, .val (.double v11), .second, .val (.double v12), .second, .val (.double v13), .second, .val (.double v14), .second, .val (.double v15), .second, .val (.int v16)] [(.double v0), (.ref ob)])) rfl rfl (hb hby d1_6)
  have Fw2 := F_targetP90Millis_ob.same W2
  have N2 := Fr.snoc X2 N1 g_ob
  have f3 : Fld Z h2 ob "com/example/tolc/tolc/ControllerSettings" "samplesPerRun" "I" u_samplesPerRun_ob := (F_samplesPerRun_ob.other W2 (Or.inr (slot_ne (Or.inr (hw _ (List.mem_of_getElem? (i := 30) rfl))) (Or.inr (hw _ (List.mem_of_getElem? (i := 28) rfl))) (by decide) (t := .int) (t' := .double) (by decide) (by decide))))
  have f4 : Exa Z h2 ob "com/example/tolc/tolc/ControllerSettings" := (E_ob.wr W2)
  obtain ⟨T5, h5, X5, e5, W5, st5⟩ := putF X2 hx hZ hown (host := "") (Or.inl (hw _ (List.mem_of_getElem? (i := 29) rfl))) Via.refl e2 f3 f4 (Or.inr ⟨(hw _ (List.mem_of_getElem? (i := 30) rfl)), rfl, hnm⟩) (hw _ (List.mem_of_getElem? (i := 6) rfl)) (ty := .int) (by decide) rfl rfl (g := (mkF m 11 #[.val (.ref ob), .val (.double v0), .second, .val (.int v1), .val (.long v2), .second, .val (.int v3), .val (.double v4), .second, .val (.double v5), .second, .val (.double v6), .second, .val (.double v7), .second, .val (.double v8), .second, .val (.double v9), .second, .val (.double v10), .second, .val (.double v11), .second, .val (.double v12), .second, .val (.double v13), .second, .val (.double v14), .second, .val (.double v15), .second, .val (.int v16)] [(.int v1), (.ref ob)])) rfl rfl (hb hby d1_11)
  have Fw5 := f3.same W5
  have N5 := Fr.snoc X5 N2 g_ob
  have f6 : Fld Z h5 ob "com/example/tolc/tolc/ControllerSettings" "timeoutMillis" "J" u_timeoutMillis_ob := ((F_timeoutMillis_ob.other W2 (Or.inr (slot_ne (Or.inr (hw _ (List.mem_of_getElem? (i := 32) rfl))) (Or.inr (hw _ (List.mem_of_getElem? (i := 28) rfl))) (by decide) (t := .long) (t' := .double) (by decide) (by decide)))).other W5 (Or.inr (slot_ne (Or.inr (hw _ (List.mem_of_getElem? (i := 32) rfl))) (Or.inr (hw _ (List.mem_of_getElem? (i := 30) rfl))) (by decide) (t := .long) (t' := .int) (by decide) (by decide))))
  have f7 : Exa Z h5 ob "com/example/tolc/tolc/ControllerSettings" := (f4.wr W5)
  obtain ⟨T8, h8, X8, e8, W8, st8⟩ := putF X5 hx hZ hown (host := "") (Or.inl (hw _ (List.mem_of_getElem? (i := 31) rfl))) Via.refl e5 f6 f7 (Or.inr ⟨(hw _ (List.mem_of_getElem? (i := 32) rfl)), rfl, hnm⟩) (hw _ (List.mem_of_getElem? (i := 6) rfl)) (ty := .long) (by decide) rfl rfl (g := (mkF m 17 #[.val (.ref ob), .val (.double v0), .second, .val (.int v1), .val (.long v2), .second, .val (.int v3), .val (.double v4), .second, .val (.double v5), .second, .val (.double v6), .second, .val (.double v7), .second, .val (.double v8), .second, .val (.double v9), .second, .val (.double v10), .second, .val (.double v11), .second, .val (.double v12), .second, .val (.double v13), .second, .val (.double v14), .second, .val (.double v15), .second, .val (.int v16)] [(.long v2), (.ref ob)])) rfl rfl (hb hby d1_17)
  have Fw8 := f6.same W8
  have N8 := Fr.snoc X8 N5 g_ob
  have f9 : Fld Z h8 ob "com/example/tolc/tolc/ControllerSettings" "earlyRunSamples" "I" u_earlyRunSamples_ob := (((F_earlyRunSamples_ob.other W2 (Or.inr (slot_ne (Or.inr (hw _ (List.mem_of_getElem? (i := 34) rfl))) (Or.inr (hw _ (List.mem_of_getElem? (i := 28) rfl))) (by decide) (t := .int) (t' := .double) (by decide) (by decide)))).other W5 (Or.inr (slot_ne (Or.inr (hw _ (List.mem_of_getElem? (i := 34) rfl))) (Or.inr (hw _ (List.mem_of_getElem? (i := 30) rfl))) (by decide) (t := .int) (t' := .int) (by decide) (by decide)))).other W8 (Or.inr (slot_ne (Or.inr (hw _ (List.mem_of_getElem? (i := 34) rfl))) (Or.inr (hw _ (List.mem_of_getElem? (i := 32) rfl))) (by decide) (t := .int) (t' := .long) (by decide) (by decide))))
  have f10 : Exa Z h8 ob "com/example/tolc/tolc/ControllerSettings" := (f7.wr W8)
  obtain ⟨T11, h11, X11, e11, W11, st11⟩ := putF X8 hx hZ hown (host := "") (Or.inl (hw _ (List.mem_of_getElem? (i := 33) rfl))) Via.refl e8 f9 f10 (Or.inr ⟨(hw _ (List.mem_of_getElem? (i := 34) rfl)), rfl, hnm⟩) (hw _ (List.mem_of_getElem? (i := 6) rfl)) (ty := .int) (by decide) rfl rfl (g := (mkF m 23 #[.val (.ref ob), .val (.double v0), .second, .val (.int v1), .val (.long v2), .second, .val (.int v3), .val (.double v4), .second, .val (.double v5), .second, .val (.double v6), .second, .val (.double v7), .second, .val (.double v8), .second, .val (.double v9), .second, .val (.double v10), .second, .val (.double v11), .second, .val (.double v12), .second, .val (.double v13), .second, .val (.double v14), .second, .val (.double v15), .second, .val (.int v16)] [(.int v3), (.ref ob)])) rfl rfl (hb hby d1_23)
  have Fw11 := f9.same W11
  have N11 := Fr.snoc X11 N8 g_ob
  have f12 : Fld Z h11 ob "com/example/tolc/tolc/ControllerSettings" "smoothing" "D" u_smoothing_ob := ((((F_smoothing_ob.other W2 (Or.inr (slot_ne (Or.inr (hw _ (List.mem_of_getElem? (i := 36) rfl))) (Or.inr (hw _ (List.mem_of_getElem? (i := 28) rfl))) (by decide) (t := .double) (t' := .double) (by decide) (by decide)))).other W5 (Or.inr (slot_ne (Or.inr (hw _ (List.mem_of_getElem? (i := 36) rfl))) (Or.inr (hw _ (List.mem_of_getElem? (i := 30) rfl))) (by decide) (t := .double) (t' := .int) (by decide) (by decide)))).other W8 (Or.inr (slot_ne (Or.inr (hw _ (List.mem_of_getElem? (i := 36) rfl))) (Or.inr (hw _ (List.mem_of_getElem? (i := 32) rfl))) (by decide) (t := .double) (t' := .long) (by decide) (by decide)))).other W11 (Or.inr (slot_ne (Or.inr (hw _ (List.mem_of_getElem? (i := 36) rfl))) (Or.inr (hw _ (List.mem_of_getElem? (i := 34) rfl))) (by decide) (t := .double) (t' := .int) (by decide) (by decide))))
  have f13 : Exa Z h11 ob "com/example/tolc/tolc/ControllerSettings" := (f10.wr W11)
  obtain ⟨T14, h14, X14, e14, W14, st14⟩ := putF X11 hx hZ hown (host := "") (Or.inl (hw _ (List.mem_of_getElem? (i := 35) rfl))) Via.refl e11 f12 f13 (Or.inr ⟨(hw _ (List.mem_of_getElem? (i := 36) rfl)), rfl, hnm⟩) (hw _ (List.mem_of_getElem? (i := 6) rfl)) (ty := .double) (by decide) rfl rfl (g := (mkF m 29 #[.val (.ref ob), .val (.double v0), .second, .val (.int v1), .val (.long v2), .second, .val (.int v3), .val (.double v4), .second, .val (.double v5), .second, .val (.double v6), .second, .val (.double v7), .second, .val (.double v8), .second, .val (.double v9), .second, .val (.double v10), .second, .val (.double v11), .second, .val (.double v12), .second, .val (.double v13), .second, .val (.double v14), .second, .val (.double v15), .second, .val (.int v16)] [(.double v4), (.ref ob)])) rfl rfl (hb hby d1_29)
  have Fw14 := f12.same W14
  have N14 := Fr.snoc X14 N11 g_ob
  have f15 : Fld Z h14 ob "com/example/tolc/tolc/ControllerSettings" "completionSmoothing" "D" u_completionSmoothing_ob := (((((F_completionSmoothing_ob.other W2 (Or.inr (slot_ne (Or.inr (hw _ (List.mem_of_getElem? (i := 38) rfl))) (Or.inr (hw _ (List.mem_of_getElem? (i := 28) rfl))) (by decide) (t := .double) (t' := .double) (by decide) (by decide)))).other W5 (Or.inr (slot_ne (Or.inr (hw _ (List.mem_of_getElem? (i := 38) rfl))) (Or.inr (hw _ (List.mem_of_getElem? (i := 30) rfl))) (by decide) (t := .double) (t' := .int) (by decide) (by decide)))).other W8 (Or.inr (slot_ne (Or.inr (hw _ (List.mem_of_getElem? (i := 38) rfl))) (Or.inr (hw _ (List.mem_of_getElem? (i := 32) rfl))) (by decide) (t := .double) (t' := .long) (by decide) (by decide)))).other W11 (Or.inr (slot_ne (Or.inr (hw _ (List.mem_of_getElem? (i := 38) rfl))) (Or.inr (hw _ (List.mem_of_getElem? (i := 34) rfl))) (by decide) (t := .double) (t' := .int) (by decide) (by decide)))).other W14 (Or.inr (slot_ne (Or.inr (hw _ (List.mem_of_getElem? (i := 38) rfl))) (Or.inr (hw _ (List.mem_of_getElem? (i := 36) rfl))) (by decide) (t := .double) (t' := .double) (by decide) (by decide))))
  have f16 : Exa Z h14 ob "com/example/tolc/tolc/ControllerSettings" := (f13.wr W14)
  obtain ⟨T17, h17, X17, e17, W17, st17⟩ := putF X14 hx hZ hown (host := "") (Or.inl (hw _ (List.mem_of_getElem? (i := 37) rfl))) Via.refl e14 f15 f16 (Or.inr ⟨(hw _ (List.mem_of_getElem? (i := 38) rfl)), rfl, hnm⟩) (hw _ (List.mem_of_getElem? (i := 6) rfl)) (ty := .double) (by decide) rfl rfl (g := (mkF m 35 #[.val (.ref ob), .val (.double v0), .second, .val (.int v1), .val (.long v2), .second, .val (.int v3), .val (.double v4), .second, .val (.double v5), .second, .val (.double v6), .second, .val (.double v7), .second, .val (.double v8), .second, .val (.double v9), .second, .val (.double v10), .second, .val (.double v11), .second, .val (.double v12), .second, .val (.double v13), .second, .val (.double v14), .second, .val (.double v15), .second, .val (.int v16)] [(.double v5), (.ref ob)])) rfl rfl (hb hby d1_35)
  have Fw17 := f15.same W17
  have N17 := Fr.snoc X17 N14 g_ob
  have f18 : Fld Z h17 ob "com/example/tolc/tolc/ControllerSettings" "cutAboveError" "D" u_cutAboveError_ob := ((((((F_cutAboveError_ob.other W2 (Or.inr (slot_ne (Or.inr (hw _ (List.mem_of_getElem? (i := 40) rfl))) (Or.inr (hw _ (List.mem_of_getElem? (i := 28) rfl))) (by decide) (t := .double) (t' := .double) (by decide) (by decide)))).other W5 (Or.inr (slot_ne (Or.inr (hw _ (List.mem_of_getElem? (i := 40) rfl))) (Or.inr (hw _ (List.mem_of_getElem? (i := 30) rfl))) (by decide) (t := .double) (t' := .int) (by decide) (by decide)))).other W8 (Or.inr (slot_ne (Or.inr (hw _ (List.mem_of_getElem? (i := 40) rfl))) (Or.inr (hw _ (List.mem_of_getElem? (i := 32) rfl))) (by decide) (t := .double) (t' := .long) (by decide) (by decide)))).other W11 (Or.inr (slot_ne (Or.inr (hw _ (List.mem_of_getElem? (i := 40) rfl))) (Or.inr (hw _ (List.mem_of_getElem? (i := 34) rfl))) (by decide) (t := .double) (t' := .int) (by decide) (by decide)))).other W14 (Or.inr (slot_ne (Or.inr (hw _ (List.mem_of_getElem? (i := 40) rfl))) (Or.inr (hw _ (List.mem_of_getElem? (i := 36) rfl))) (by decide) (t := .double) (t' := .double) (by decide) (by decide)))).other W17 (Or.inr (slot_ne (Or.inr (hw _ (List.mem_of_getElem? (i := 40) rfl))) (Or.inr (hw _ (List.mem_of_getElem? (i := 38) rfl))) (by decide) (t := .double) (t' := .double) (by decide) (by decide))))
  have f19 : Exa Z h17 ob "com/example/tolc/tolc/ControllerSettings" := (f16.wr W17)
  obtain ⟨T20, h20, X20, e20, W20, st20⟩ := putF X17 hx hZ hown (host := "") (Or.inl (hw _ (List.mem_of_getElem? (i := 39) rfl))) Via.refl e17 f18 f19 (Or.inr ⟨(hw _ (List.mem_of_getElem? (i := 40) rfl)), rfl, hnm⟩) (hw _ (List.mem_of_getElem? (i := 6) rfl)) (ty := .double) (by decide) rfl rfl (g := (mkF m 41 #[.val (.ref ob), .val (.double v0), .second, .val (.int v1), .val (.long v2), .second, .val (.int v3), .val (.double v4), .second, .val (.double v5), .second, .val (.double v6), .second, .val (.double v7), .second, .val (.double v8), .second, .val (.double v9), .second, .val (.double v10), .second, .val (.double v11), .second, .val (.double v12), .second, .val (.double v13), .second, .val (.double v14), .second, .val (.double v15), .second, .val (.int v16)] [(.double v6), (.ref ob)])) rfl rfl (hb hby d1_41)
  have Fw20 := f18.same W20
  have N20 := Fr.snoc X20 N17 g_ob
  have f21 : Fld Z h20 ob "com/example/tolc/tolc/ControllerSettings" "cutDivisor" "D" u_cutDivisor_ob := (((((((F_cutDivisor_ob.other W2 (Or.inr (slot_ne (Or.inr (hw _ (List.mem_of_getElem? (i := 42) rfl))) (Or.inr (hw _ (List.mem_of_getElem? (i := 28) rfl))) (by decide) (t := .double) (t' := .double) (by decide) (by decide)))).other W5 (Or.inr (slot_ne (Or.inr (hw _ (List.mem_of_getElem? (i := 42) rfl))) (Or.inr (hw _ (List.mem_of_getElem? (i := 30) rfl))) (by decide) (t := .double) (t' := .int) (by decide) (by decide)))).other W8 (Or.inr (slot_ne (Or.inr (hw _ (List.mem_of_getElem? (i := 42) rfl))) (Or.inr (hw _ (List.mem_of_getElem? (i := 32) rfl))) (by decide) (t := .double) (t' := .long) (by decide) (by decide)))).other W11 (Or.inr (slot_ne (Or.inr (hw _ (List.mem_of_getElem? (i := 42) rfl))) (Or.inr (hw _ (List.mem_of_getElem? (i := 34) rfl))) (by decide) (t := .double) (t' := .int) (by decide) (by decide)))).other W14 (Or.inr (slot_ne (Or.inr (hw _ (List.mem_of_getElem? (i := 42) rfl))) (Or.inr (hw _ (List.mem_of_getElem? (i := 36) rfl))) (by decide) (t := .double) (t' := .double) (by decide) (by decide)))).other W17 (Or.inr (slot_ne (Or.inr (hw _ (List.mem_of_getElem? (i := 42) rfl))) (Or.inr (hw _ (List.mem_of_getElem? (i := 38) rfl))) (by decide) (t := .double) (t' := .double) (by decide) (by decide)))).other W20 (Or.inr (slot_ne (Or.inr (hw _ (List.mem_of_getElem? (i := 42) rfl))) (Or.inr (hw _ (List.mem_of_getElem? (i := 40) rfl))) (by decide) (t := .double) (t' := .double) (by decide) (by decide))))
  have f22 : Exa Z h20 ob "com/example/tolc/tolc/ControllerSettings" := (f19.wr W20)
  obtain ⟨T23, h23, X23, e23, W23, st23⟩ := putF X20 hx hZ hown (host := "") (Or.inl (hw _ (List.mem_of_getElem? (i := 41) rfl))) Via.refl e20 f21 f22 (Or.inr ⟨(hw _ (List.mem_of_getElem? (i := 42) rfl)), rfl, hnm⟩) (hw _ (List.mem_of_getElem? (i := 6) rfl)) (ty := .double) (by decide) rfl rfl (g := (mkF m 47 #[.val (.ref ob), .val (.double v0), .second, .val (.int v1), .val (.long v2), .second, .val (.int v3), .val (.double v4), .second, .val (.double v5), .second, .val (.double v6), .second, .val (.double v7), .second, .val (.double v8), .second, .val (.double v9), .second, .val (.double v10), .second, .val (.double v11), .second, .val (.double v12), .second, .val (.double v13), .second, .val (.double v14), .second, .val (.double v15), .second, .val (.int v16)] [(.double v7), (.ref ob)])) rfl rfl (hb hby d1_47)
  have Fw23 := f21.same W23
  have N23 := Fr.snoc X23 N20 g_ob
  have f24 : Fld Z h23 ob "com/example/tolc/tolc/ControllerSettings" "raiseBelowError" "D" u_raiseBelowError_ob := ((((((((F_raiseBelowError_ob.other W2 (Or.inr (slot_ne (Or.inr (hw _ (List.mem_of_getElem? (i := 44) rfl))) (Or.inr (hw _ (List.mem_of_getElem? (i := 28) rfl))) (by decide) (t := .double) (t' := .double) (by decide) (by decide)))).other W5 (Or.inr (slot_ne (Or.inr (hw _ (List.mem_of_getElem? (i := 44) rfl))) (Or.inr (hw _ (List.mem_of_getElem? (i := 30) rfl))) (by decide) (t := .double) (t' := .int) (by decide) (by decide)))).other W8 (Or.inr (slot_ne (Or.inr (hw _ (List.mem_of_getElem? (i := 44) rfl))) (Or.inr (hw _ (List.mem_of_getElem? (i := 32) rfl))) (by decide) (t := .double) (t' := .long) (by decide) (by decide)))).other W11 (Or.inr (slot_ne (Or.inr (hw _ (List.mem_of_getElem? (i := 44) rfl))) (Or.inr (hw _ (List.mem_of_getElem? (i := 34) rfl))) (by decide) (t := .double) (t' := .int) (by decide) (by decide)))).other W14 (Or.inr (slot_ne (Or.inr (hw _ (List.mem_of_getElem? (i := 44) rfl))) (Or.inr (hw _ (List.mem_of_getElem? (i := 36) rfl))) (by decide) (t := .double) (t' := .double) (by decide) (by decide)))).other W17 (Or.inr (slot_ne (Or.inr (hw _ (List.mem_of_getElem? (i := 44) rfl))) (Or.inr (hw _ (List.mem_of_getElem? (i := 38) rfl))) (by decide) (t := .double) (t' := .double) (by decide) (by decide)))).other W20 (Or.inr (slot_ne (Or.inr (hw _ (List.mem_of_getElem? (i := 44) rfl))) (Or.inr (hw _ (List.mem_of_getElem? (i := 40) rfl))) (by decide) (t := .double) (t' := .double) (by decide) (by decide)))).other W23 (Or.inr (slot_ne (Or.inr (hw _ (List.mem_of_getElem? (i := 44) rfl))) (Or.inr (hw _ (List.mem_of_getElem? (i := 42) rfl))) (by decide) (t := .double) (t' := .double) (by decide) (by decide))))
  have f25 : Exa Z h23 ob "com/example/tolc/tolc/ControllerSettings" := (f22.wr W23)
  obtain ⟨T26, h26, X26, e26, W26, st26⟩ := putF X23 hx hZ hown (host := "") (Or.inl (hw _ (List.mem_of_getElem? (i := 43) rfl))) Via.refl e23 f24 f25 (Or.inr ⟨(hw _ (List.mem_of_getElem? (i := 44) rfl)), rfl, hnm⟩) (hw _ (List.mem_of_getElem? (i := 6) rfl)) (ty := .double) (by decide) rfl rfl (g := (mkF m 53 #[.val (.ref ob), .val (.double v0), .second, .val (.int v1), .val (.long v2), .second, .val (.int v3), .val (.double v4), .second, .val (.double v5), .second, .val (.double v6), .second, .val (.double v7), .second, .val (.double v8), .second, .val (.double v9), .second, .val (.double v10), .second, .val (.double v11), .second, .val (.double v12), .second, .val (.double v13), .second, .val (.double v14), .second, .val (.double v15), .second, .val (.int v16)] [(.double v8), (.ref ob)])) rfl rfl (hb hby d1_53)
  have Fw26 := f24.same W26
  have N26 := Fr.snoc X26 N23 g_ob
  have f27 : Fld Z h26 ob "com/example/tolc/tolc/ControllerSettings" "raiseFromError" "D" u_raiseFromError_ob := (((((((((F_raiseFromError_ob.other W2 (Or.inr (slot_ne (Or.inr (hw _ (List.mem_of_getElem? (i := 46) rfl))) (Or.inr (hw _ (List.mem_of_getElem? (i := 28) rfl))) (by decide) (t := .double) (t' := .double) (by decide) (by decide)))).other W5 (Or.inr (slot_ne (Or.inr (hw _ (List.mem_of_getElem? (i := 46) rfl))) (Or.inr (hw _ (List.mem_of_getElem? (i := 30) rfl))) (by decide) (t := .double) (t' := .int) (by decide) (by decide)))).other W8 (Or.inr (slot_ne (Or.inr (hw _ (List.mem_of_getElem? (i := 46) rfl))) (Or.inr (hw _ (List.mem_of_getElem? (i := 32) rfl))) (by decide) (t := .double) (t' := .long) (by decide) (by decide)))).other W11 (Or.inr (slot_ne (Or.inr (hw _ (List.mem_of_getElem? (i := 46) rfl))) (Or.inr (hw _ (List.mem_of_getElem? (i := 34) rfl))) (by decide) (t := .double) (t' := .int) (by decide) (by decide)))).other W14 (Or.inr (slot_ne (Or.inr (hw _ (List.mem_of_getElem? (i := 46) rfl))) (Or.inr (hw _ (List.mem_of_getElem? (i := 36) rfl))) (by decide) (t := .double) (t' := .double) (by decide) (by decide)))).other W17 (Or.inr (slot_ne (Or.inr (hw _ (List.mem_of_getElem? (i := 46) rfl))) (Or.inr (hw _ (List.mem_of_getElem? (i := 38) rfl))) (by decide) (t := .double) (t' := .double) (by decide) (by decide)))).other W20 (Or.inr (slot_ne (Or.inr (hw _ (List.mem_of_getElem? (i := 46) rfl))) (Or.inr (hw _ (List.mem_of_getElem? (i := 40) rfl))) (by decide) (t := .double) (t' := .double) (by decide) (by decide)))).other W23 (Or.inr (slot_ne (Or.inr (hw _ (List.mem_of_getElem? (i := 46) rfl))) (Or.inr (hw _ (List.mem_of_getElem? (i := 42) rfl))) (by decide) (t := .double) (t' := .double) (by decide) (by decide)))).other W26 (Or.inr (slot_ne (Or.inr (hw _ (List.mem_of_getElem? (i := 46) rfl))) (Or.inr (hw _ (List.mem_of_getElem? (i := 44) rfl))) (by decide) (t := .double) (t' := .double) (by decide) (by decide))))
  have f28 : Exa Z h26 ob "com/example/tolc/tolc/ControllerSettings" := (f25.wr W26)
  obtain ⟨T29, h29, X29, e29, W29, st29⟩ := putF X26 hx hZ hown (host := "") (Or.inl (hw _ (List.mem_of_getElem? (i := 45) rfl))) Via.refl e26 f27 f28 (Or.inr ⟨(hw _ (List.mem_of_getElem? (i := 46) rfl)), rfl, hnm⟩) (hw _ (List.mem_of_getElem? (i := 6) rfl)) (ty := .double) (by decide) rfl rfl (g := (mkF m 59 #[.val (.ref ob), .val (.double v0), .second, .val (.int v1), .val (.long v2), .second, .val (.int v3), .val (.double v4), .second, .val (.double v5), .second, .val (.double v6), .second, .val (.double v7), .second, .val (.double v8), .second, .val (.double v9), .second, .val (.double v10), .second, .val (.double v11), .second, .val (.double v12), .second, .val (.double v13), .second, .val (.double v14), .second, .val (.double v15), .second, .val (.int v16)] [(.double v9), (.ref ob)])) rfl rfl (hb hby d1_59)
  have Fw29 := f27.same W29
  have N29 := Fr.snoc X29 N26 g_ob
  have f30 : Fld Z h29 ob "com/example/tolc/tolc/ControllerSettings" "raiseStep" "D" u_raiseStep_ob := ((((((((((F_raiseStep_ob.other W2 (Or.inr (slot_ne (Or.inr (hw _ (List.mem_of_getElem? (i := 48) rfl))) (Or.inr (hw _ (List.mem_of_getElem? (i := 28) rfl))) (by decide) (t := .double) (t' := .double) (by decide) (by decide)))).other W5 (Or.inr (slot_ne (Or.inr (hw _ (List.mem_of_getElem? (i := 48) rfl))) (Or.inr (hw _ (List.mem_of_getElem? (i := 30) rfl))) (by decide) (t := .double) (t' := .int) (by decide) (by decide)))).other W8 (Or.inr (slot_ne (Or.inr (hw _ (List.mem_of_getElem? (i := 48) rfl))) (Or.inr (hw _ (List.mem_of_getElem? (i := 32) rfl))) (by decide) (t := .double) (t' := .long) (by decide) (by decide)))).other W11 (Or.inr (slot_ne (Or.inr (hw _ (List.mem_of_getElem? (i := 48) rfl))) (Or.inr (hw _ (List.mem_of_getElem? (i := 34) rfl))) (by decide) (t := .double) (t' := .int) (by decide) (by decide)))).other W14 (Or.inr (slot_ne (Or.inr (hw _ (List.mem_of_getElem? (i := 48) rfl))) (Or.inr (hw _ (List.mem_of_getElem? (i := 36) rfl))) (by decide) (t := .double) (t' := .double) (by decide) (by decide)))).other W17 (Or.inr (slot_ne (Or.inr (hw _ (List.mem_of_getElem? (i := 48) rfl))) (Or.inr (hw _ (List.mem_of_getElem? (i := 38) rfl))) (by decide) (t := .double) (t' := .double) (by decide) (by decide)))).other W20 (Or.inr (slot_ne (Or.inr (hw _ (List.mem_of_getElem? (i := 48) rfl))) (Or.inr (hw _ (List.mem_of_getElem? (i := 40) rfl))) (by decide) (t := .double) (t' := .double) (by decide) (by decide)))).other W23 (Or.inr (slot_ne (Or.inr (hw _ (List.mem_of_getElem? (i := 48) rfl))) (Or.inr (hw _ (List.mem_of_getElem? (i := 42) rfl))) (by decide) (t := .double) (t' := .double) (by decide) (by decide)))).other W26 (Or.inr (slot_ne (Or.inr (hw _ (List.mem_of_getElem? (i := 48) rfl))) (Or.inr (hw _ (List.mem_of_getElem? (i := 44) rfl))) (by decide) (t := .double) (t' := .double) (by decide) (by decide)))).other W29 (Or.inr (slot_ne (Or.inr (hw _ (List.mem_of_getElem? (i := 48) rfl))) (Or.inr (hw _ (List.mem_of_getElem? (i := 46) rfl))) (by decide) (t := .double) (t' := .double) (by decide) (by decide))))
  have f31 : Exa Z h29 ob "com/example/tolc/tolc/ControllerSettings" := (f28.wr W29)
  obtain ⟨T32, h32, X32, e32, W32, st32⟩ := putF X29 hx hZ hown (host := "") (Or.inl (hw _ (List.mem_of_getElem? (i := 47) rfl))) Via.refl e29 f30 f31 (Or.inr ⟨(hw _ (List.mem_of_getElem? (i := 48) rfl)), rfl, hnm⟩) (hw _ (List.mem_of_getElem? (i := 6) rfl)) (ty := .double) (by decide) rfl rfl (g := (mkF m 65 #[.val (.ref ob), .val (.double v0), .second, .val (.int v1), .val (.long v2), .second, .val (.int v3), .val (.double v4), .second, .val (.double v5), .second, .val (.double v6), .second, .val (.double v7), .second, .val (.double v8), .second, .val (.double v9), .second, .val (.double v10), .second, .val (.double v11), .second, .val (.double v12), .second, .val (.double v13), .second, .val (.double v14), .second, .val (.double v15), .second, .val (.int v16)] [(.double v10), (.ref ob)])) rfl rfl (hb hby d1_65)
  have Fw32 := f30.same W32
  have N32 := Fr.snoc X32 N29 g_ob
  have f33 : Fld Z h32 ob "com/example/tolc/tolc/ControllerSettings" "minRatePerSecond" "D" u_minRatePerSecond_ob := (((((((((((F_minRatePerSecond_ob.other W2 (Or.inr (slot_ne (Or.inr (hw _ (List.mem_of_getElem? (i := 50) rfl))) (Or.inr (hw _ (List.mem_of_getElem? (i := 28) rfl))) (by decide) (t := .double) (t' := .double) (by decide) (by decide)))).other W5 (Or.inr (slot_ne (Or.inr (hw _ (List.mem_of_getElem? (i := 50) rfl))) (Or.inr (hw _ (List.mem_of_getElem? (i := 30) rfl))) (by decide) (t := .double) (t' := .int) (by decide) (by decide)))).other W8 (Or.inr (slot_ne (Or.inr (hw _ (List.mem_of_getElem? (i := 50) rfl))) (Or.inr (hw _ (List.mem_of_getElem? (i := 32) rfl))) (by decide) (t := .double) (t' := .long) (by decide) (by decide)))).other W11 (Or.inr (slot_ne (Or.inr (hw _ (List.mem_of_getElem? (i := 50) rfl))) (Or.inr (hw _ (List.mem_of_getElem? (i := 34) rfl))) (by decide) (t := .double) (t' := .int) (by decide) (by decide)))).other W14 (Or.inr (slot_ne (Or.inr (hw _ (List.mem_of_getElem? (i := 50) rfl))) (Or.inr (hw _ (List.mem_of_getElem? (i := 36) rfl))) (by decide) (t := .double) (t' := .double) (by decide) (by decide)))).other W17 (Or.inr (slot_ne (Or.inr (hw _ (List.mem_of_getElem? (i := 50) rfl))) (Or.inr (hw _ (List.mem_of_getElem? (i := 38) rfl))) (by decide) (t := .double) (t' := .double) (by decide) (by decide)))).other W20 (Or.inr (slot_ne (Or.inr (hw _ (List.mem_of_getElem? (i := 50) rfl))) (Or.inr (hw _ (List.mem_of_getElem? (i := 40) rfl))) (by decide) (t := .double) (t' := .double) (by decide) (by decide)))).other W23 (Or.inr (slot_ne (Or.inr (hw _ (List.mem_of_getElem? (i := 50) rfl))) (Or.inr (hw _ (List.mem_of_getElem? (i := 42) rfl))) (by decide) (t := .double) (t' := .double) (by decide) (by decide)))).other W26 (Or.inr (slot_ne (Or.inr (hw _ (List.mem_of_getElem? (i := 50) rfl))) (Or.inr (hw _ (List.mem_of_getElem? (i := 44) rfl))) (by decide) (t := .double) (t' := .double) (by decide) (by decide)))).other W29 (Or.inr (slot_ne (Or.inr (hw _ (List.mem_of_getElem? (i := 50) rfl))) (Or.inr (hw _ (List.mem_of_getElem? (i := 46) rfl))) (by decide) (t := .double) (t' := .double) (by decide) (by decide)))).other W32 (Or.inr (slot_ne (Or.inr (hw _ (List.mem_of_getElem? (i := 50) rfl))) (Or.inr (hw _ (List.mem_of_getElem? (i := 48) rfl))) (by decide) (t := .double) (t' := .double) (by decide) (by decide))))
  have f34 : Exa Z h32 ob "com/example/tolc/tolc/ControllerSettings" := (f31.wr W32)
  obtain ⟨T35, h35, X35, e35, W35, st35⟩ := putF X32 hx hZ hown (host := "") (Or.inl (hw _ (List.mem_of_getElem? (i := 49) rfl))) Via.refl e32 f33 f34 (Or.inr ⟨(hw _ (List.mem_of_getElem? (i := 50) rfl)), rfl, hnm⟩) (hw _ (List.mem_of_getElem? (i := 6) rfl)) (ty := .double) (by decide) rfl rfl (g := (mkF m 71 #[.val (.ref ob), .val (.double v0), .second, .val (.int v1), .val (.long v2), .second, .val (.int v3), .val (.double v4), .second, .val (.double v5), .second, .val (.double v6), .second, .val (.double v7), .second, .val (.double v8), .second, .val (.double v9), .second, .val (.double v10), .second, .val (.double v11), .second, .val (.double v12), .second, .val (.double v13), .second, .val (.double v14), .second, .val (.double v15), .second, .val (.int v16)] [(.double v11), (.ref ob)])) rfl rfl (hb hby d1_71)
  have Fw35 := f33.same W35
  have N35 := Fr.snoc X35 N32 g_ob
  have f36 : Fld Z h35 ob "com/example/tolc/tolc/ControllerSettings" "maxRatePerSecond" "D" u_maxRatePerSecond_ob := ((((((((((((F_maxRatePerSecond_ob.other W2 (Or.inr (slot_ne (Or.inr (hw _ (List.mem_of_getElem? (i := 52) rfl))) (Or.inr (hw _ (List.mem_of_getElem? (i := 28) rfl))) (by decide) (t := .double) (t' := .double) (by decide) (by decide)))).other W5 (Or.inr (slot_ne (Or.inr (hw _ (List.mem_of_getElem? (i := 52) rfl))) (Or.inr (hw _ (List.mem_of_getElem? (i := 30) rfl))) (by decide) (t := .double) (t' := .int) (by decide) (by decide)))).other W8 (Or.inr (slot_ne (Or.inr (hw _ (List.mem_of_getElem? (i := 52) rfl))) (Or.inr (hw _ (List.mem_of_getElem? (i := 32) rfl))) (by decide) (t := .double) (t' := .long) (by decide) (by decide)))).other W11 (Or.inr (slot_ne (Or.inr (hw _ (List.mem_of_getElem? (i := 52) rfl))) (Or.inr (hw _ (List.mem_of_getElem? (i := 34) rfl))) (by decide) (t := .double) (t' := .int) (by decide) (by decide)))).other W14 (Or.inr (slot_ne (Or.inr (hw _ (List.mem_of_getElem? (i := 52) rfl))) (Or.inr (hw _ (List.mem_of_getElem? (i := 36) rfl))) (by decide) (t := .double) (t' := .double) (by decide) (by decide)))).other W17 (Or.inr (slot_ne (Or.inr (hw _ (List.mem_of_getElem? (i := 52) rfl))) (Or.inr (hw _ (List.mem_of_getElem? (i := 38) rfl))) (by decide) (t := .double) (t' := .double) (by decide) (by decide)))).other W20 (Or.inr (slot_ne (Or.inr (hw _ (List.mem_of_getElem? (i := 52) rfl))) (Or.inr (hw _ (List.mem_of_getElem? (i := 40) rfl))) (by decide) (t := .double) (t' := .double) (by decide) (by decide)))).other W23 (Or.inr (slot_ne (Or.inr (hw _ (List.mem_of_getElem? (i := 52) rfl))) (Or.inr (hw _ (List.mem_of_getElem? (i := 42) rfl))) (by decide) (t := .double) (t' := .double) (by decide) (by decide)))).other W26 (Or.inr (slot_ne (Or.inr (hw _ (List.mem_of_getElem? (i := 52) rfl))) (Or.inr (hw _ (List.mem_of_getElem? (i := 44) rfl))) (by decide) (t := .double) (t' := .double) (by decide) (by decide)))).other W29 (Or.inr (slot_ne (Or.inr (hw _ (List.mem_of_getElem? (i := 52) rfl))) (Or.inr (hw _ (List.mem_of_getElem? (i := 46) rfl))) (by decide) (t := .double) (t' := .double) (by decide) (by decide)))).other W32 (Or.inr (slot_ne (Or.inr (hw _ (List.mem_of_getElem? (i := 52) rfl))) (Or.inr (hw _ (List.mem_of_getElem? (i := 48) rfl))) (by decide) (t := .double) (t' := .double) (by decide) (by decide)))).other W35 (Or.inr (slot_ne (Or.inr (hw _ (List.mem_of_getElem? (i := 52) rfl))) (Or.inr (hw _ (List.mem_of_getElem? (i := 50) rfl))) (by decide) (t := .double) (t' := .double) (by decide) (by decide))))
  have f37 : Exa Z h35 ob "com/example/tolc/tolc/ControllerSettings" := (f34.wr W35)
  obtain ⟨T38, h38, X38, e38, W38, st38⟩ := putF X35 hx hZ hown (host := "") (Or.inl (hw _ (List.mem_of_getElem? (i := 51) rfl))) Via.refl e35 f36 f37 (Or.inr ⟨(hw _ (List.mem_of_getElem? (i := 52) rfl)), rfl, hnm⟩) (hw _ (List.mem_of_getElem? (i := 6) rfl)) (ty := .double) (by decide) rfl rfl (g := (mkF m 77 #[.val (.ref ob), .val (.double v0), .second, .val (.int v1), .val (.long v2), .second, .val (.int v3), .val (.double v4), .second, .val (.double v5), .second, .val (.double v6), .second, .val (.double v7), .second, .val (.double v8), .second, .val (.double v9), .second, .val (.double v10), .second, .val (.double v11), .second, .val (.double v12), .second, .val (.double v13), .second, .val (.double v14), .second, .val (.double v15), .second, .val (.int v16)] [(.double v12), (.ref ob)])) rfl rfl (hb hby d1_77)
  have Fw38 := f36.same W38
  have N38 := Fr.snoc X38 N35 g_ob
  have f39 : Fld Z h38 ob "com/example/tolc/tolc/ControllerSettings" "initialRatePerSecond" "D" u_initialRatePerSecond_ob := (((((((((((((F_initialRatePerSecond_ob.other W2 (Or.inr (slot_ne (Or.inr (hw _ (List.mem_of_getElem? (i := 54) rfl))) (Or.inr (hw _ (List.mem_of_getElem? (i := 28) rfl))) (by decide) (t := .double) (t' := .double) (by decide) (by decide)))).other W5 (Or.inr (slot_ne (Or.inr (hw _ (List.mem_of_getElem? (i := 54) rfl))) (Or.inr (hw _ (List.mem_of_getElem? (i := 30) rfl))) (by decide) (t := .double) (t' := .int) (by decide) (by decide)))).other W8 (Or.inr (slot_ne (Or.inr (hw _ (List.mem_of_getElem? (i := 54) rfl))) (Or.inr (hw _ (List.mem_of_getElem? (i := 32) rfl))) (by decide) (t := .double) (t' := .long) (by decide) (by decide)))).other W11 (Or.inr (slot_ne (Or.inr (hw _ (List.mem_of_getElem? (i := 54) rfl))) (Or.inr (hw _ (List.mem_of_getElem? (i := 34) rfl))) (by decide) (t := .double) (t' := .int) (by decide) (by decide)))).other W14 (Or.inr (slot_ne (Or.inr (hw _ (List.mem_of_getElem? (i := 54) rfl))) (Or.inr (hw _ (List.mem_of_getElem? (i := 36) rfl))) (by decide) (t := .double) (t' := .double) (by decide) (by decide)))).other W17 (Or.inr (slot_ne (Or.inr (hw _ (List.mem_of_getElem? (i := 54) rfl))) (Or.inr (hw _ (List.mem_of_getElem? (i := 38) rfl))) (by decide) (t := .double) (t' := .double) (by decide) (by decide)))).other W20 (Or.inr (slot_ne (Or.inr (hw _ (List.mem_of_getElem? (i := 54) rfl))) (Or.inr (hw _ (List.mem_of_getElem? (i := 40) rfl))) (by decide) (t := .double) (t' := .double) (by decide) (by decide)))).other W23 (Or.inr (slot_ne (Or.inr (hw _ (List.mem_of_getElem? (i := 54) rfl))) (Or.inr (hw _ (List.mem_of_getElem? (i := 42) rfl))) (by decide) (t := .double) (t' := .double) (by decide) (by decide)))).other W26 (Or.inr (slot_ne (Or.inr (hw _ (List.mem_of_getElem? (i := 54) rfl))) (Or.inr (hw _ (List.mem_of_getElem? (i := 44) rfl))) (by decide) (t := .double) (t' := .double) (by decide) (by decide)))).other W29 (Or.inr (slot_ne (Or.inr (hw _ (List.mem_of_getElem? (i := 54) rfl))) (Or.inr (hw _ (List.mem_of_getElem? (i := 46) rfl))) (by decide) (t := .double) (t' := .double) (by decide) (by decide)))).other W32 (Or.inr (slot_ne (Or.inr (hw _ (List.mem_of_getElem? (i := 54) rfl))) (Or.inr (hw _ (List.mem_of_getElem? (i := 48) rfl))) (by decide) (t := .double) (t' := .double) (by decide) (by decide)))).other W35 (Or.inr (slot_ne (Or.inr (hw _ (List.mem_of_getElem? (i := 54) rfl))) (Or.inr (hw _ (List.mem_of_getElem? (i := 50) rfl))) (by decide) (t := .double) (t' := .double) (by decide) (by decide)))).other W38 (Or.inr (slot_ne (Or.inr (hw _ (List.mem_of_getElem? (i := 54) rfl))) (Or.inr (hw _ (List.mem_of_getElem? (i := 52) rfl))) (by decide) (t := .double) (t' := .double) (by decide) (by decide))))
  have f40 : Exa Z h38 ob "com/example/tolc/tolc/ControllerSettings" := (f37.wr W38)
  obtain ⟨T41, h41, X41, e41, W41, st41⟩ := putF X38 hx hZ hown (host := "") (Or.inl (hw _ (List.mem_of_getElem? (i := 53) rfl))) Via.refl e38 f39 f40 (Or.inr ⟨(hw _ (List.mem_of_getElem? (i := 54) rfl)), rfl, hnm⟩) (hw _ (List.mem_of_getElem? (i := 6) rfl)) (ty := .double) (by decide) rfl rfl (g := (mkF m 83 #[.val (.ref ob), .val (.double v0), .second, .val (.int v1), .val (.long v2), .second, .val (.int v3), .val (.double v4), .second, .val (.double v5), .second, .val (.double v6), .second, .val (.double v7), .second, .val (.double v8), .second, .val (.double v9), .second, .val (.double v10), .second, .val (.double v11), .second, .val (.double v12), .second, .val (.double v13), .second, .val (.double v14), .second, .val (.double v15), .second, .val (.int v16)] [(.double v13), (.ref ob)])) rfl rfl (hb hby d1_83)
  have Fw41 := f39.same W41
  have N41 := Fr.snoc X41 N38 g_ob
  have f42 : Fld Z h41 ob "com/example/tolc/tolc/ControllerSettings" "demandReach" "D" u_demandReach_ob := ((((((((((((((F_demandReach_ob.other W2 (Or.inr (slot_ne (Or.inr (hw _ (List.mem_of_getElem? (i := 56) rfl))) (Or.inr (hw _ (List.mem_of_getElem? (i := 28) rfl))) (by decide) (t := .double) (t' := .double) (by decide) (by decide)))).other W5 (Or.inr (slot_ne (Or.inr (hw _ (List.mem_of_getElem? (i := 56) rfl))) (Or.inr (hw _ (List.mem_of_getElem? (i := 30) rfl))) (by decide) (t := .double) (t' := .int) (by decide) (by decide)))).other W8 (Or.inr (slot_ne (Or.inr (hw _ (List.mem_of_getElem? (i := 56) rfl))) (Or.inr (hw _ (List.mem_of_getElem? (i := 32) rfl))) (by decide) (t := .double) (t' := .long) (by decide) (by decide)))).other W11 (Or.inr (slot_ne (Or.inr (hw _ (List.mem_of_getElem? (i := 56) rfl))) (Or.inr (hw _ (List.mem_of_getElem? (i := 34) rfl))) (by decide) (t := .double) (t' := .int) (by decide) (by decide)))).other W14 (Or.inr (slot_ne (Or.inr (hw _ (List.mem_of_getElem? (i := 56) rfl))) (Or.inr (hw _ (List.mem_of_getElem? (i := 36) rfl))) (by decide) (t := .double) (t' := .double) (by decide) (by decide)))).other W17 (Or.inr (slot_ne (Or.inr (hw _ (List.mem_of_getElem? (i := 56) rfl))) (Or.inr (hw _ (List.mem_of_getElem? (i := 38) rfl))) (by decide) (t := .double) (t' := .double) (by decide) (by decide)))).other W20 (Or.inr (slot_ne (Or.inr (hw _ (List.mem_of_getElem? (i := 56) rfl))) (Or.inr (hw _ (List.mem_of_getElem? (i := 40) rfl))) (by decide) (t := .double) (t' := .double) (by decide) (by decide)))).other W23 (Or.inr (slot_ne (Or.inr (hw _ (List.mem_of_getElem? (i := 56) rfl))) (Or.inr (hw _ (List.mem_of_getElem? (i := 42) rfl))) (by decide) (t := .double) (t' := .double) (by decide) (by decide)))).other W26 (Or.inr (slot_ne (Or.inr (hw _ (List.mem_of_getElem? (i := 56) rfl))) (Or.inr (hw _ (List.mem_of_getElem? (i := 44) rfl))) (by decide) (t := .double) (t' := .double) (by decide) (by decide)))).other W29 (Or.inr (slot_ne (Or.inr (hw _ (List.mem_of_getElem? (i := 56) rfl))) (Or.inr (hw _ (List.mem_of_getElem? (i := 46) rfl))) (by decide) (t := .double) (t' := .double) (by decide) (by decide)))).other W32 (Or.inr (slot_ne (Or.inr (hw _ (List.mem_of_getElem? (i := 56) rfl))) (Or.inr (hw _ (List.mem_of_getElem? (i := 48) rfl))) (by decide) (t := .double) (t' := .double) (by decide) (by decide)))).other W35 (Or.inr (slot_ne (Or.inr (hw _ (List.mem_of_getElem? (i := 56) rfl))) (Or.inr (hw _ (List.mem_of_getElem? (i := 50) rfl))) (by decide) (t := .double) (t' := .double) (by decide) (by decide)))).other W38 (Or.inr (slot_ne (Or.inr (hw _ (List.mem_of_getElem? (i := 56) rfl))) (Or.inr (hw _ (List.mem_of_getElem? (i := 52) rfl))) (by decide) (t := .double) (t' := .double) (by decide) (by decide)))).other W41 (Or.inr (slot_ne (Or.inr (hw _ (List.mem_of_getElem? (i := 56) rfl))) (Or.inr (hw _ (List.mem_of_getElem? (i := 54) rfl))) (by decide) (t := .double) (t' := .double) (by decide) (by decide))))
  have f43 : Exa Z h41 ob "com/example/tolc/tolc/ControllerSettings" := (f40.wr W41)
  obtain ⟨T44, h44, X44, e44, W44, st44⟩ := putF X41 hx hZ hown (host := "") (Or.inl (hw _ (List.mem_of_getElem? (i := 55) rfl))) Via.refl e41 f42 f43 (Or.inr ⟨(hw _ (List.mem_of_getElem? (i := 56) rfl)), rfl, hnm⟩) (hw _ (List.mem_of_getElem? (i := 6) rfl)) (ty := .double) (by decide) rfl rfl (g := (mkF m 89 #[.val (.ref ob), .val (.double v0), .second, .val (.int v1), .val (.long v2), .second, .val (.int v3), .val (.double v4), .second, .val (.double v5), .second, .val (.double v6), .second, .val (.double v7), .second, .val (.double v8), .second, .val (.double v9), .second, .val (.double v10), .second, .val (.double v11), .second, .val (.double v12), .second, .val (.double v13), .second, .val (.double v14), .second, .val (.double v15), .second, .val (.int v16)] [(.double v14), (.ref ob)])) rfl rfl (hb hby d1_89)
  have Fw44 := f42.same W44
  have N44 := Fr.snoc X44 N41 g_ob
  have f45 : Fld Z h44 ob "com/example/tolc/tolc/ControllerSettings" "lowerCutDivisor" "D" u_lowerCutDivisor_ob := (((((((((((((((F_lowerCutDivisor_ob.other W2 (Or.inr (slot_ne (Or.inr (hw _ (List.mem_of_getElem? (i := 58) rfl))) (Or.inr (hw _ (List.mem_of_getElem? (i := 28) rfl))) (by decide) (t := .double) (t' := .double) (by decide) (by decide)))).other W5 (Or.inr (slot_ne (Or.inr (hw _ (List.mem_of_getElem? (i := 58) rfl))) (Or.inr (hw _ (List.mem_of_getElem? (i := 30) rfl))) (by decide) (t := .double) (t' := .int) (by decide) (by decide)))).other W8 (Or.inr (slot_ne (Or.inr (hw _ (List.mem_of_getElem? (i := 58) rfl))) (Or.inr (hw _ (List.mem_of_getElem? (i := 32) rfl))) (by decide) (t := .double) (t' := .long) (by decide) (by decide)))).other W11 (Or.inr (slot_ne (Or.inr (hw _ (List.mem_of_getElem? (i := 58) rfl))) (Or.inr (hw _ (List.mem_of_getElem? (i := 34) rfl))) (by decide) (t := .double) (t' := .int) (by decide) (by decide)))).other W14 (Or.inr (slot_ne (Or.inr (hw _ (List.mem_of_getElem? (i := 58) rfl))) (Or.inr (hw _ (List.mem_of_getElem? (i := 36) rfl))) (by decide) (t := .double) (t' := .double) (by decide) (by decide)))).other W17 (Or.inr (slot_ne (Or.inr (hw _ (List.mem_of_getElem? (i := 58) rfl))) (Or.inr (hw _ (List.mem_of_getElem? (i := 38) rfl))) (by decide) (t := .double) (t' := .double) (by decide) (by decide)))).other W20 (Or.inr (slot_ne (Or.inr (hw _ (List.mem_of_getElem? (i := 58) rfl))) (Or.inr (hw _ (List.mem_of_getElem? (i := 40) rfl))) (by decide) (t := .double) (t' := .double) (by decide) (by decide)))).other W23 (Or.inr (slot_ne (Or.inr (hw _ (List.mem_of_getElem? (i := 58) rfl))) (Or.inr (hw _ (List.mem_of_getElem? (i := 42) rfl))) (by decide) (t := .double) (t' := .double) (by decide) (by decide)))).other W26 (Or.inr (slot_ne (Or.inr (hw _ (List.mem_of_getElem? (i := 58) rfl))) (Or.inr (hw _ (List.mem_of_getElem? (i := 44) rfl))) (by decide) (t := .double) (t' := .double) (by decide) (by decide)))).other W29 (Or.inr (slot_ne (Or.inr (hw _ (List.mem_of_getElem? (i := 58) rfl))) (Or.inr (hw _ (List.mem_of_getElem? (i := 46) rfl))) (by decide) (t := .double) (t' := .double) (by decide) (by decide)))).other W32 (Or.inr (slot_ne (Or.inr (hw _ (List.mem_of_getElem? (i := 58) rfl))) (Or.inr (hw _ (List.mem_of_getElem? (i := 48) rfl))) (by decide) (t := .double) (t' := .double) (by decide) (by decide)))).other W35 (Or.inr (slot_ne (Or.inr (hw _ (List.mem_of_getElem? (i := 58) rfl))) (Or.inr (hw _ (List.mem_of_getElem? (i := 50) rfl))) (by decide) (t := .double) (t' := .double) (by decide) (by decide)))).other W38 (Or.inr (slot_ne (Or.inr (hw _ (List.mem_of_getElem? (i := 58) rfl))) (Or.inr (hw _ (List.mem_of_getElem? (i := 52) rfl))) (by decide) (t := .double) (t' := .double) (by decide) (by decide)))).other W41 (Or.inr (slot_ne (Or.inr (hw _ (List.mem_of_getElem? (i := 58) rfl))) (Or.inr (hw _ (List.mem_of_getElem? (i := 54) rfl))) (by decide) (t := .double) (t' := .double) (by decide) (by decide)))).other W44 (Or.inr (slot_ne (Or.inr (hw _ (List.mem_of_getElem? (i := 58) rfl))) (Or.inr (hw _ (List.mem_of_getElem? (i := 56) rfl))) (by decide) (t := .double) (t' := .double) (by decide) (by decide))))
  have f46 : Exa Z h44 ob "com/example/tolc/tolc/ControllerSettings" := (f43.wr W44)
  obtain ⟨T47, h47, X47, e47, W47, st47⟩ := putF X44 hx hZ hown (host := "") (Or.inl (hw _ (List.mem_of_getElem? (i := 57) rfl))) Via.refl e44 f45 f46 (Or.inr ⟨(hw _ (List.mem_of_getElem? (i := 58) rfl)), rfl, hnm⟩) (hw _ (List.mem_of_getElem? (i := 6) rfl)) (ty := .double) (by decide) rfl rfl (g := (mkF m 95 #[.val (.ref ob), .val (.double v0), .second, .val (.int v1), .val (.long v2), .second, .val (.int v3), .val (.double v4), .second, .val (.double v5), .second, .val (.double v6), .second, .val (.double v7), .second, .val (.double v8), .second, .val (.double v9), .second, .val (.double v10), .second, .val (.double v11), .second, .val (.double v12), .second, .val (.double v13), .second, .val (.double v14), .second, .val (.double v15), .second, .val (.int v16)] [(.double v15), (.ref ob)])) rfl rfl (hb hby d1_95)
  have Fw47 := f45.same W47
  have N47 := Fr.snoc X47 N44 g_ob
  have f48 : Fld Z h47 ob "com/example/tolc/tolc/ControllerSettings" "ownCutRuns" "I" u_ownCutRuns_ob := ((((((((((((((((F_ownCutRuns_ob.other W2 (Or.inr (slot_ne (Or.inr (hw _ (List.mem_of_getElem? (i := 60) rfl))) (Or.inr (hw _ (List.mem_of_getElem? (i := 28) rfl))) (by decide) (t := .int) (t' := .double) (by decide) (by decide)))).other W5 (Or.inr (slot_ne (Or.inr (hw _ (List.mem_of_getElem? (i := 60) rfl))) (Or.inr (hw _ (List.mem_of_getElem? (i := 30) rfl))) (by decide) (t := .int) (t' := .int) (by decide) (by decide)))).other W8 (Or.inr (slot_ne (Or.inr (hw _ (List.mem_of_getElem? (i := 60) rfl))) (Or.inr (hw _ (List.mem_of_getElem? (i := 32) rfl))) (by decide) (t := .int) (t' := .long) (by decide) (by decide)))).other W11 (Or.inr (slot_ne (Or.inr (hw _ (List.mem_of_getElem? (i := 60) rfl))) (Or.inr (hw _ (List.mem_of_getElem? (i := 34) rfl))) (by decide) (t := .int) (t' := .int) (by decide) (by decide)))).other W14 (Or.inr (slot_ne (Or.inr (hw _ (List.mem_of_getElem? (i := 60) rfl))) (Or.inr (hw _ (List.mem_of_getElem? (i := 36) rfl))) (by decide) (t := .int) (t' := .double) (by decide) (by decide)))).other W17 (Or.inr (slot_ne (Or.inr (hw _ (List.mem_of_getElem? (i := 60) rfl))) (Or.inr (hw _ (List.mem_of_getElem? (i := 38) rfl))) (by decide) (t := .int) (t' := .double) (by decide) (by decide)))).other W20 (Or.inr (slot_ne (Or.inr (hw _ (List.mem_of_getElem? (i := 60) rfl))) (Or.inr (hw _ (List.mem_of_getElem? (i := 40) rfl))) (by decide) (t := .int) (t' := .double) (by decide) (by decide)))).other W23 (Or.inr (slot_ne (Or.inr (hw _ (List.mem_of_getElem? (i := 60) rfl))) (Or.inr (hw _ (List.mem_of_getElem? (i := 42) rfl))) (by decide) (t := .int) (t' := .double) (by decide) (by decide)))).other W26 (Or.inr (slot_ne (Or.inr (hw _ (List.mem_of_getElem? (i := 60) rfl))) (Or.inr (hw _ (List.mem_of_getElem? (i := 44) rfl))) (by decide) (t := .int) (t' := .double) (by decide) (by decide)))).other W29 (Or.inr (slot_ne (Or.inr (hw _ (List.mem_of_getElem? (i := 60) rfl))) (Or.inr (hw _ (List.mem_of_getElem? (i := 46) rfl))) (by decide) (t := .int) (t' := .double) (by decide) (by decide)))).other W32 (Or.inr (slot_ne (Or.inr (hw _ (List.mem_of_getElem? (i := 60) rfl))) (Or.inr (hw _ (List.mem_of_getElem? (i := 48) rfl))) (by decide) (t := .int) (t' := .double) (by decide) (by decide)))).other W35 (Or.inr (slot_ne (Or.inr (hw _ (List.mem_of_getElem? (i := 60) rfl))) (Or.inr (hw _ (List.mem_of_getElem? (i := 50) rfl))) (by decide) (t := .int) (t' := .double) (by decide) (by decide)))).other W38 (Or.inr (slot_ne (Or.inr (hw _ (List.mem_of_getElem? (i := 60) rfl))) (Or.inr (hw _ (List.mem_of_getElem? (i := 52) rfl))) (by decide) (t := .int) (t' := .double) (by decide) (by decide)))).other W41 (Or.inr (slot_ne (Or.inr (hw _ (List.mem_of_getElem? (i := 60) rfl))) (Or.inr (hw _ (List.mem_of_getElem? (i := 54) rfl))) (by decide) (t := .int) (t' := .double) (by decide) (by decide)))).other W44 (Or.inr (slot_ne (Or.inr (hw _ (List.mem_of_getElem? (i := 60) rfl))) (Or.inr (hw _ (List.mem_of_getElem? (i := 56) rfl))) (by decide) (t := .int) (t' := .double) (by decide) (by decide)))).other W47 (Or.inr (slot_ne (Or.inr (hw _ (List.mem_of_getElem? (i := 60) rfl))) (Or.inr (hw _ (List.mem_of_getElem? (i := 58) rfl))) (by decide) (t := .int) (t' := .double) (by decide) (by decide))))
  have f49 : Exa Z h47 ob "com/example/tolc/tolc/ControllerSettings" := (f46.wr W47)
  obtain ⟨T50, h50, X50, e50, W50, st50⟩ := putF X47 hx hZ hown (host := "") (Or.inl (hw _ (List.mem_of_getElem? (i := 59) rfl))) Via.refl e47 f48 f49 (Or.inr ⟨(hw _ (List.mem_of_getElem? (i := 60) rfl)), rfl, hnm⟩) (hw _ (List.mem_of_getElem? (i := 6) rfl)) (ty := .int) (by decide) rfl rfl (g := (mkF m 101 #[.val (.ref ob), .val (.double v0), .second, .val (.int v1), .val (.long v2), .second, .val (.int v3), .val (.double v4), .second, .val (.double v5), .second, .val (.double v6), .second, .val (.double v7), .second, .val (.double v8), .second, .val (.double v9), .second, .val (.double v10), .second, .val (.double v11), .second, .val (.double v12), .second, .val (.double v13), .second, .val (.double v14), .second, .val (.double v15), .second, .val (.int v16)] [(.int v16), (.ref ob)])) rfl rfl (hb hby d1_101)
  have Fw50 := f48.same W50
  have N50 := Fr.snoc X50 N47 g_ob
  have f51 : Exa Z h50 ob "com/example/tolc/tolc/ControllerSettings" := (f49.wr W50)
  have f52 : Fld Z h50 ob "com/example/tolc/tolc/ControllerSettings" "targetP90Millis" "D" (.double v0) := ((((((((((((((((Fw2.other W5 (Or.inr (slot_ne (Or.inr (hw _ (List.mem_of_getElem? (i := 28) rfl))) (Or.inr (hw _ (List.mem_of_getElem? (i := 30) rfl))) (by decide) (t := .double) (t' := .int) (by decide) (by decide)))).other W8 (Or.inr (slot_ne (Or.inr (hw _ (List.mem_of_getElem? (i := 28) rfl))) (Or.inr (hw _ (List.mem_of_getElem? (i := 32) rfl))) (by decide) (t := .double) (t' := .long) (by decide) (by decide)))).other W11 (Or.inr (slot_ne (Or.inr (hw _ (List.mem_of_getElem? (i := 28) rfl))) (Or.inr (hw _ (List.mem_of_getElem? (i := 34) rfl))) (by decide) (t := .double) (t' := .int) (by decide) (by decide)))).other W14 (Or.inr (slot_ne (Or.inr (hw _ (List.mem_of_getElem? (i := 28) rfl))) (Or.inr (hw _ (List.mem_of_getElem? (i := 36) rfl))) (by decide) (t := .double) (t' := .double) (by decide) (by decide)))).other W17 (Or.inr (slot_ne (Or.inr (hw _ (List.mem_of_getElem? (i := 28) rfl))) (Or.inr (hw _ (List.mem_of_getElem? (i := 38) rfl))) (by decide) (t := .double) (t' := .double) (by decide) (by decide)))).other W20 (Or.inr (slot_ne (Or.inr (hw _ (List.mem_of_getElem? (i := 28) rfl))) (Or.inr (hw _ (List.mem_of_getElem? (i := 40) rfl))) (by decide) (t := .double) (t' := .double) (by decide) (by decide)))).other W23 (Or.inr (slot_ne (Or.inr (hw _ (List.mem_of_getElem? (i := 28) rfl))) (Or.inr (hw _ (List.mem_of_getElem? (i := 42) rfl))) (by decide) (t := .double) (t' := .double) (by decide) (by decide)))).other W26 (Or.inr (slot_ne (Or.inr (hw _ (List.mem_of_getElem? (i := 28) rfl))) (Or.inr (hw _ (List.mem_of_getElem? (i := 44) rfl))) (by decide) (t := .double) (t' := .double) (by decide) (by decide)))).other W29 (Or.inr (slot_ne (Or.inr (hw _ (List.mem_of_getElem? (i := 28) rfl))) (Or.inr (hw _ (List.mem_of_getElem? (i := 46) rfl))) (by decide) (t := .double) (t' := .double) (by decide) (by decide)))).other W32 (Or.inr (slot_ne (Or.inr (hw _ (List.mem_of_getElem? (i := 28) rfl))) (Or.inr (hw _ (List.mem_of_getElem? (i := 48) rfl))) (by decide) (t := .double) (t' := .double) (by decide) (by decide)))).other W35 (Or.inr (slot_ne (Or.inr (hw _ (List.mem_of_getElem? (i := 28) rfl))) (Or.inr (hw _ (List.mem_of_getElem? (i := 50) rfl))) (by decide) (t := .double) (t' := .double) (by decide) (by decide)))).other W38 (Or.inr (slot_ne (Or.inr (hw _ (List.mem_of_getElem? (i := 28) rfl))) (Or.inr (hw _ (List.mem_of_getElem? (i := 52) rfl))) (by decide) (t := .double) (t' := .double) (by decide) (by decide)))).other W41 (Or.inr (slot_ne (Or.inr (hw _ (List.mem_of_getElem? (i := 28) rfl))) (Or.inr (hw _ (List.mem_of_getElem? (i := 54) rfl))) (by decide) (t := .double) (t' := .double) (by decide) (by decide)))).other W44 (Or.inr (slot_ne (Or.inr (hw _ (List.mem_of_getElem? (i := 28) rfl))) (Or.inr (hw _ (List.mem_of_getElem? (i := 56) rfl))) (by decide) (t := .double) (t' := .double) (by decide) (by decide)))).other W47 (Or.inr (slot_ne (Or.inr (hw _ (List.mem_of_getElem? (i := 28) rfl))) (Or.inr (hw _ (List.mem_of_getElem? (i := 58) rfl))) (by decide) (t := .double) (t' := .double) (by decide) (by decide)))).other W50 (Or.inr (slot_ne (Or.inr (hw _ (List.mem_of_getElem? (i := 28) rfl))) (Or.inr (hw _ (List.mem_of_getElem? (i := 60) rfl))) (by decide) (t := .double) (t' := .int) (by decide) (by decide))))
  have f53 : Fld Z h50 ob "com/example/tolc/tolc/ControllerSettings" "samplesPerRun" "I" (.int v1) := (((((((((((((((Fw5.other W8 (Or.inr (slot_ne (Or.inr (hw _ (List.mem_of_getElem? (i := 30) rfl))) (Or.inr (hw _ (List.mem_of_getElem? (i := 32) rfl))) (by decide) (t := .int) (t' := .long) (by decide) (by decide)))).other W11 (Or.inr (slot_ne (Or.inr (hw _ (List.mem_of_getElem? (i := 30) rfl))) (Or.inr (hw _ (List.mem_of_getElem? (i := 34) rfl))) (by decide) (t := .int) (t' := .int) (by decide) (by decide)))).other W14 (Or.inr (slot_ne (Or.inr (hw _ (List.mem_of_getElem? (i := 30) rfl))) (Or.inr (hw _ (List.mem_of_getElem? (i := 36) rfl))) (by decide) (t := .int) (t' := .double) (by decide) (by decide)))).other W17 (Or.inr (slot_ne (Or.inr (hw _ (List.mem_of_getElem? (i := 30) rfl))) (Or.inr (hw _ (List.mem_of_getElem? (i := 38) rfl))) (by decide) (t := .int) (t' := .double) (by decide) (by decide)))).other W20 (Or.inr (slot_ne (Or.inr (hw _ (List.mem_of_getElem? (i := 30) rfl))) (Or.inr (hw _ (List.mem_of_getElem? (i := 40) rfl))) (by decide) (t := .int) (t' := .double) (by decide) (by decide)))).other W23 (Or.inr (slot_ne (Or.inr (hw _ (List.mem_of_getElem? (i := 30) rfl))) (Or.inr (hw _ (List.mem_of_getElem? (i := 42) rfl))) (by decide) (t := .int) (t' := .double) (by decide) (by decide)))).other W26 (Or.inr (slot_ne (Or.inr (hw _ (List.mem_of_getElem? (i := 30) rfl))) (Or.inr (hw _ (List.mem_of_getElem? (i := 44) rfl))) (by decide) (t := .int) (t' := .double) (by decide) (by decide)))).other W29 (Or.inr (slot_ne (Or.inr (hw _ (List.mem_of_getElem? (i := 30) rfl))) (Or.inr (hw _ (List.mem_of_getElem? (i := 46) rfl))) (by decide) (t := .int) (t' := .double) (by decide) (by decide)))).other W32 (Or.inr (slot_ne (Or.inr (hw _ (List.mem_of_getElem? (i := 30) rfl))) (Or.inr (hw _ (List.mem_of_getElem? (i := 48) rfl))) (by decide) (t := .int) (t' := .double) (by decide) (by decide)))).other W35 (Or.inr (slot_ne (Or.inr (hw _ (List.mem_of_getElem? (i := 30) rfl))) (Or.inr (hw _ (List.mem_of_getElem? (i := 50) rfl))) (by decide) (t := .int) (t' := .double) (by decide) (by decide)))).other W38 (Or.inr (slot_ne (Or.inr (hw _ (List.mem_of_getElem? (i := 30) rfl))) (Or.inr (hw _ (List.mem_of_getElem? (i := 52) rfl))) (by decide) (t := .int) (t' := .double) (by decide) (by decide)))).other W41 (Or.inr (slot_ne (Or.inr (hw _ (List.mem_of_getElem? (i := 30) rfl))) (Or.inr (hw _ (List.mem_of_getElem? (i := 54) rfl))) (by decide) (t := .int) (t' := .double) (by decide) (by decide)))).other W44 (Or.inr (slot_ne (Or.inr (hw _ (List.mem_of_getElem? (i := 30) rfl))) (Or.inr (hw _ (List.mem_of_getElem? (i := 56) rfl))) (by decide) (t := .int) (t' := .double) (by decide) (by decide)))).other W47 (Or.inr (slot_ne (Or.inr (hw _ (List.mem_of_getElem? (i := 30) rfl))) (Or.inr (hw _ (List.mem_of_getElem? (i := 58) rfl))) (by decide) (t := .int) (t' := .double) (by decide) (by decide)))).other W50 (Or.inr (slot_ne (Or.inr (hw _ (List.mem_of_getElem? (i := 30) rfl))) (Or.inr (hw _ (List.mem_of_getElem? (i := 60) rfl))) (by decide) (t := .int) (t' := .int) (by decide) (by decide))))
  have f54 : Fld Z h50 ob "com/example/tolc/tolc/ControllerSettings" "timeoutMillis" "J" (.long v2) := ((((((((((((((Fw8.other W11 (Or.inr (slot_ne (Or.inr (hw _ (List.mem_of_getElem? (i := 32) rfl))) (Or.inr (hw _ (List.mem_of_getElem? (i := 34) rfl))) (by decide) (t := .long) (t' := .int) (by decide) (by decide)))).other W14 (Or.inr (slot_ne (Or.inr (hw _ (List.mem_of_getElem? (i := 32) rfl))) (Or.inr (hw _ (List.mem_of_getElem? (i := 36) rfl))) (by decide) (t := .long) (t' := .double) (by decide) (by decide)))).other W17 (Or.inr (slot_ne (Or.inr (hw _ (List.mem_of_getElem? (i := 32) rfl))) (Or.inr (hw _ (List.mem_of_getElem? (i := 38) rfl))) (by decide) (t := .long) (t' := .double) (by decide) (by decide)))).other W20 (Or.inr (slot_ne (Or.inr (hw _ (List.mem_of_getElem? (i := 32) rfl))) (Or.inr (hw _ (List.mem_of_getElem? (i := 40) rfl))) (by decide) (t := .long) (t' := .double) (by decide) (by decide)))).other W23 (Or.inr (slot_ne (Or.inr (hw _ (List.mem_of_getElem? (i := 32) rfl))) (Or.inr (hw _ (List.mem_of_getElem? (i := 42) rfl))) (by decide) (t := .long) (t' := .double) (by decide) (by decide)))).other W26 (Or.inr (slot_ne (Or.inr (hw _ (List.mem_of_getElem? (i := 32) rfl))) (Or.inr (hw _ (List.mem_of_getElem? (i := 44) rfl))) (by decide) (t := .long) (t' := .double) (by decide) (by decide)))).other W29 (Or.inr (slot_ne (Or.inr (hw _ (List.mem_of_getElem? (i := 32) rfl))) (Or.inr (hw _ (List.mem_of_getElem? (i := 46) rfl))) (by decide) (t := .long) (t' := .double) (by decide) (by decide)))).other W32 (Or.inr (slot_ne (Or.inr (hw _ (List.mem_of_getElem? (i := 32) rfl))) (Or.inr (hw _ (List.mem_of_getElem? (i := 48) rfl))) (by decide) (t := .long) (t' := .double) (by decide) (by decide)))).other W35 (Or.inr (slot_ne (Or.inr (hw _ (List.mem_of_getElem? (i := 32) rfl))) (Or.inr (hw _ (List.mem_of_getElem? (i := 50) rfl))) (by decide) (t := .long) (t' := .double) (by decide) (by decide)))).other W38 (Or.inr (slot_ne (Or.inr (hw _ (List.mem_of_getElem? (i := 32) rfl))) (Or.inr (hw _ (List.mem_of_getElem? (i := 52) rfl))) (by decide) (t := .long) (t' := .double) (by decide) (by decide)))).other W41 (Or.inr (slot_ne (Or.inr (hw _ (List.mem_of_getElem? (i := 32) rfl))) (Or.inr (hw _ (List.mem_of_getElem? (i := 54) rfl))) (by decide) (t := .long) (t' := .double) (by decide) (by decide)))).other W44 (Or.inr (slot_ne (Or.inr (hw _ (List.mem_of_getElem? (i := 32) rfl))) (Or.inr (hw _ (List.mem_of_getElem? (i := 56) rfl))) (by decide) (t := .long) (t' := .double) (by decide) (by decide)))).other W47 (Or.inr (slot_ne (Or.inr (hw _ (List.mem_of_getElem? (i := 32) rfl))) (Or.inr (hw _ (List.mem_of_getElem? (i := 58) rfl))) (by decide) (t := .long) (t' := .double) (by decide) (by decide)))).other W50 (Or.inr (slot_ne (Or.inr (hw _ (List.mem_of_getElem? (i := 32) rfl))) (Or.inr (hw _ (List.mem_of_getElem? (i := 60) rfl))) (by decide) (t := .long) (t' := .int) (by decide) (by decide))))
  have f55 : Fld Z h50 ob "com/example/tolc/tolc/ControllerSettings" "earlyRunSamples" "I" (.int v3) := (((((((((((((Fw11.other W14 (Or.inr (slot_ne (Or.inr (hw _ (List.mem_of_getElem? (i := 34) rfl))) (Or.inr (hw _ (List.mem_of_getElem? (i := 36) rfl))) (by decide) (t := .int) (t' := .double) (by decide) (by decide)))).other W17 (Or.inr (slot_ne (Or.inr (hw _ (List.mem_of_getElem? (i := 34) rfl))) (Or.inr (hw _ (List.mem_of_getElem? (i := 38) rfl))) (by decide) (t := .int) (t' := .double) (by decide) (by decide)))).other W20 (Or.inr (slot_ne (Or.inr (hw _ (List.mem_of_getElem? (i := 34) rfl))) (Or.inr (hw _ (List.mem_of_getElem? (i := 40) rfl))) (by decide) (t := .int) (t' := .double) (by decide) (by decide)))).other W23 (Or.inr (slot_ne (Or.inr (hw _ (List.mem_of_getElem? (i := 34) rfl))) (Or.inr (hw _ (List.mem_of_getElem? (i := 42) rfl))) (by decide) (t := .int) (t' := .double) (by decide) (by decide)))).other W26 (Or.inr (slot_ne (Or.inr (hw _ (List.mem_of_getElem? (i := 34) rfl))) (Or.inr (hw _ (List.mem_of_getElem? (i := 44) rfl))) (by decide) (t := .int) (t' := .double) (by decide) (by decide)))).other W29 (Or.inr (slot_ne (Or.inr (hw _ (List.mem_of_getElem? (i := 34) rfl))) (Or.inr (hw _ (List.mem_of_getElem? (i := 46) rfl))) (by decide) (t := .int) (t' := .double) (by decide) (by decide)))).other W32 (Or.inr (slot_ne (Or.inr (hw _ (List.mem_of_getElem? (i := 34) rfl))) (Or.inr (hw _ (List.mem_of_getElem? (i := 48) rfl))) (by decide) (t := .int) (t' := .double) (by decide) (by decide)))).other W35 (Or.inr (slot_ne (Or.inr (hw _ (List.mem_of_getElem? (i := 34) rfl))) (Or.inr (hw _ (List.mem_of_getElem? (i := 50) rfl))) (by decide) (t := .int) (t' := .double) (by decide) (by decide)))).other W38 (Or.inr (slot_ne (Or.inr (hw _ (List.mem_of_getElem? (i := 34) rfl))) (Or.inr (hw _ (List.mem_of_getElem? (i := 52) rfl))) (by decide) (t := .int) (t' := .double) (by decide) (by decide)))).other W41 (Or.inr (slot_ne (Or.inr (hw _ (List.mem_of_getElem? (i := 34) rfl))) (Or.inr (hw _ (List.mem_of_getElem? (i := 54) rfl))) (by decide) (t := .int) (t' := .double) (by decide) (by decide)))).other W44 (Or.inr (slot_ne (Or.inr (hw _ (List.mem_of_getElem? (i := 34) rfl))) (Or.inr (hw _ (List.mem_of_getElem? (i := 56) rfl))) (by decide) (t := .int) (t' := .double) (by decide) (by decide)))).other W47 (Or.inr (slot_ne (Or.inr (hw _ (List.mem_of_getElem? (i := 34) rfl))) (Or.inr (hw _ (List.mem_of_getElem? (i := 58) rfl))) (by decide) (t := .int) (t' := .double) (by decide) (by decide)))).other W50 (Or.inr (slot_ne (Or.inr (hw _ (List.mem_of_getElem? (i := 34) rfl))) (Or.inr (hw _ (List.mem_of_getElem? (i := 60) rfl))) (by decide) (t := .int) (t' := .int) (by decide) (by decide))))
  have f56 : Fld Z h50 ob "com/example/tolc/tolc/ControllerSettings" "smoothing" "D" (.double v4) := ((((((((((((Fw14.other W17 (Or.inr (slot_ne (Or.inr (hw _ (List.mem_of_getElem? (i := 36) rfl))) (Or.inr (hw _ (List.mem_of_getElem? (i := 38) rfl))) (by decide) (t := .double) (t' := .double) (by decide) (by decide)))).other W20 (Or.inr (slot_ne (Or.inr (hw _ (List.mem_of_getElem? (i := 36) rfl))) (Or.inr (hw _ (List.mem_of_getElem? (i := 40) rfl))) (by decide) (t := .double) (t' := .double) (by decide) (by decide)))).other W23 (Or.inr (slot_ne (Or.inr (hw _ (List.mem_of_getElem? (i := 36) rfl))) (Or.inr (hw _ (List.mem_of_getElem? (i := 42) rfl))) (by decide) (t := .double) (t' := .double) (by decide) (by decide)))).other W26 (Or.inr (slot_ne (Or.inr (hw _ (List.mem_of_getElem? (i := 36) rfl))) (Or.inr (hw _ (List.mem_of_getElem? (i := 44) rfl))) (by decide) (t := .double) (t' := .double) (by decide) (by decide)))).other W29 (Or.inr (slot_ne (Or.inr (hw _ (List.mem_of_getElem? (i := 36) rfl))) (Or.inr (hw _ (List.mem_of_getElem? (i := 46) rfl))) (by decide) (t := .double) (t' := .double) (by decide) (by decide)))).other W32 (Or.inr (slot_ne (Or.inr (hw _ (List.mem_of_getElem? (i := 36) rfl))) (Or.inr (hw _ (List.mem_of_getElem? (i := 48) rfl))) (by decide) (t := .double) (t' := .double) (by decide) (by decide)))).other W35 (Or.inr (slot_ne (Or.inr (hw _ (List.mem_of_getElem? (i := 36) rfl))) (Or.inr (hw _ (List.mem_of_getElem? (i := 50) rfl))) (by decide) (t := .double) (t' := .double) (by decide) (by decide)))).other W38 (Or.inr (slot_ne (Or.inr (hw _ (List.mem_of_getElem? (i := 36) rfl))) (Or.inr (hw _ (List.mem_of_getElem? (i := 52) rfl))) (by decide) (t := .double) (t' := .double) (by decide) (by decide)))).other W41 (Or.inr (slot_ne (Or.inr (hw _ (List.mem_of_getElem? (i := 36) rfl))) (Or.inr (hw _ (List.mem_of_getElem? (i := 54) rfl))) (by decide) (t := .double) (t' := .double) (by decide) (by decide)))).other W44 (Or.inr (slot_ne (Or.inr (hw _ (List.mem_of_getElem? (i := 36) rfl))) (Or.inr (hw _ (List.mem_of_getElem? (i := 56) rfl))) (by decide) (t := .double) (t' := .double) (by decide) (by decide)))).other W47 (Or.inr (slot_ne (Or.inr (hw _ (List.mem_of_getElem? (i := 36) rfl))) (Or.inr (hw _ (List.mem_of_getElem? (i := 58) rfl))) (by decide) (t := .double) (t' := .double) (by decide) (by decide)))).other W50 (Or.inr (slot_ne (Or.inr (hw _ (List.mem_of_getElem? (i := 36) rfl))) (Or.inr (hw _ (List.mem_of_getElem? (i := 60) rfl))) (by decide) (t := .double) (t' := .int) (by decide) (by decide))))
  have f57 : Fld Z h50 ob "com/example/tolc/tolc/ControllerSettings" "completionSmoothing" "D" (.double v5) := (((((((((((Fw17.other W20 (Or.inr (slot_ne (Or.inr (hw _ (List.mem_of_getElem? (i := 38) rfl))) (Or.inr (hw _ (List.mem_of_getElem? (i := 40) rfl))) (by decide) (t := .double) (t' := .double) (by decide) (by decide)))).other W23 (Or.inr (slot_ne (Or.inr (hw _ (List.mem_of_getElem? (i := 38) rfl))) (Or.inr (hw _ (List.mem_of_getElem? (i := 42) rfl))) (by decide) (t := .double) (t' := .double) (by decide) (by decide)))).other W26 (Or.inr (slot_ne (Or.inr (hw _ (List.mem_of_getElem? (i := 38) rfl))) (Or.inr (hw _ (List.mem_of_getElem? (i := 44) rfl))) (by decide) (t := .double) (t' := .double) (by decide) (by decide)))).other W29 (Or.inr (slot_ne (Or.inr (hw _ (List.mem_of_getElem? (i := 38) rfl))) (Or.inr (hw _ (List.mem_of_getElem? (i := 46) rfl))) (by decide) (t := .double) (t' := .double) (by decide) (by decide)))).other W32 (Or.inr (slot_ne (Or.inr (hw _ (List.mem_of_getElem? (i := 38) rfl))) (Or.inr (hw _ (List.mem_of_getElem? (i := 48) rfl))) (by decide) (t := .double) (t' := .double) (by decide) (by decide)))).other W35 (Or.inr (slot_ne (Or.inr (hw _ (List.mem_of_getElem? (i := 38) rfl))) (Or.inr (hw _ (List.mem_of_getElem? (i := 50) rfl))) (by decide) (t := .double) (t' := .double) (by decide) (by decide)))).other W38 (Or.inr (slot_ne (Or.inr (hw _ (List.mem_of_getElem? (i := 38) rfl))) (Or.inr (hw _ (List.mem_of_getElem? (i := 52) rfl))) (by decide) (t := .double) (t' := .double) (by decide) (by decide)))).other W41 (Or.inr (slot_ne (Or.inr (hw _ (List.mem_of_getElem? (i := 38) rfl))) (Or.inr (hw _ (List.mem_of_getElem? (i := 54) rfl))) (by decide) (t := .double) (t' := .double) (by decide) (by decide)))).other W44 (Or.inr (slot_ne (Or.inr (hw _ (List.mem_of_getElem? (i := 38) rfl))) (Or.inr (hw _ (List.mem_of_getElem? (i := 56) rfl))) (by decide) (t := .double) (t' := .double) (by decide) (by decide)))).other W47 (Or.inr (slot_ne (Or.inr (hw _ (List.mem_of_getElem? (i := 38) rfl))) (Or.inr (hw _ (List.mem_of_getElem? (i := 58) rfl))) (by decide) (t := .double) (t' := .double) (by decide) (by decide)))).other W50 (Or.inr (slot_ne (Or.inr (hw _ (List.mem_of_getElem? (i := 38) rfl))) (Or.inr (hw _ (List.mem_of_getElem? (i := 60) rfl))) (by decide) (t := .double) (t' := .int) (by decide) (by decide))))
  have f58 : Fld Z h50 ob "com/example/tolc/tolc/ControllerSettings" "cutAboveError" "D" (.double v6) := ((((((((((Fw20.other W23 (Or.inr (slot_ne (Or.inr (hw _ (List.mem_of_getElem? (i := 40) rfl))) (Or.inr (hw _ (List.mem_of_getElem? (i := 42) rfl))) (by decide) (t := .double) (t' := .double) (by decide) (by decide)))).other W26 (Or.inr (slot_ne (Or.inr (hw _ (List.mem_of_getElem? (i := 40) rfl))) (Or.inr (hw _ (List.mem_of_getElem? (i := 44) rfl))) (by decide) (t := .double) (t' := .double) (by decide) (by decide)))).other W29 (Or.inr (slot_ne (Or.inr (hw _ (List.mem_of_getElem? (i := 40) rfl))) (Or.inr (hw _ (List.mem_of_getElem? (i := 46) rfl))) (by decide) (t := .double) (t' := .double) (by decide) (by decide)))).other W32 (Or.inr (slot_ne (Or.inr (hw _ (List.mem_of_getElem? (i := 40) rfl))) (Or.inr (hw _ (List.mem_of_getElem? (i := 48) rfl))) (by decide) (t := .double) (t' := .double) (by decide) (by decide)))).other W35 (Or.inr (slot_ne (Or.inr (hw _ (List.mem_of_getElem? (i := 40) rfl))) (Or.inr (hw _ (List.mem_of_getElem? (i := 50) rfl))) (by decide) (t := .double) (t' := .double) (by decide) (by decide)))).other W38 (Or.inr (slot_ne (Or.inr (hw _ (List.mem_of_getElem? (i := 40) rfl))) (Or.inr (hw _ (List.mem_of_getElem? (i := 52) rfl))) (by decide) (t := .double) (t' := .double) (by decide) (by decide)))).other W41 (Or.inr (slot_ne (Or.inr (hw _ (List.mem_of_getElem? (i := 40) rfl))) (Or.inr (hw _ (List.mem_of_getElem? (i := 54) rfl))) (by decide) (t := .double) (t' := .double) (by decide) (by decide)))).other W44 (Or.inr (slot_ne (Or.inr (hw _ (List.mem_of_getElem? (i := 40) rfl))) (Or.inr (hw _ (List.mem_of_getElem? (i := 56) rfl))) (by decide) (t := .double) (t' := .double) (by decide) (by decide)))).other W47 (Or.inr (slot_ne (Or.inr (hw _ (List.mem_of_getElem? (i := 40) rfl))) (Or.inr (hw _ (List.mem_of_getElem? (i := 58) rfl))) (by decide) (t := .double) (t' := .double) (by decide) (by decide)))).other W50 (Or.inr (slot_ne (Or.inr (hw _ (List.mem_of_getElem? (i := 40) rfl))) (Or.inr (hw _ (List.mem_of_getElem? (i := 60) rfl))) (by decide) (t := .double) (t' := .int) (by decide) (by decide))))
  have f59 : Fld Z h50 ob "com/example/tolc/tolc/ControllerSettings" "cutDivisor" "D" (.double v7) := (((((((((Fw23.other W26 (Or.inr (slot_ne (Or.inr (hw _ (List.mem_of_getElem? (i := 42) rfl))) (Or.inr (hw _ (List.mem_of_getElem? (i := 44) rfl))) (by decide) (t := .double) (t' := .double) (by decide) (by decide)))).other W29 (Or.inr (slot_ne (Or.inr (hw _ (List.mem_of_getElem? (i := 42) rfl))) (Or.inr (hw _ (List.mem_of_getElem? (i := 46) rfl))) (by decide) (t := .double) (t' := .double) (by decide) (by decide)))).other W32 (Or.inr (slot_ne (Or.inr (hw _ (List.mem_of_getElem? (i := 42) rfl))) (Or.inr (hw _ (List.mem_of_getElem? (i := 48) rfl))) (by decide) (t := .double) (t' := .double) (by decide) (by decide)))).other W35 (Or.inr (slot_ne (Or.inr (hw _ (List.mem_of_getElem? (i := 42) rfl))) (Or.inr (hw _ (List.mem_of_getElem? (i := 50) rfl))) (by decide) (t := .double) (t' := .double) (by decide) (by decide)))).other W38 (Or.inr (slot_ne (Or.inr (hw _ (List.mem_of_getElem? (i := 42) rfl))) (Or.inr (hw _ (List.mem_of_getElem? (i := 52) rfl))) (by decide) (t := .double) (t' := .double) (by decide) (by decide)))).other W41 (Or.inr (slot_ne (Or.inr (hw _ (List.mem_of_getElem? (i := 42) rfl))) (Or.inr (hw _ (List.mem_of_getElem? (i := 54) rfl))) (by decide) (t := .double) (t' := .double) (by decide) (by decide)))).other W44 (Or.inr (slot_ne (Or.inr (hw _ (List.mem_of_getElem? (i := 42) rfl))) (Or.inr (hw _ (List.mem_of_getElem? (i := 56) rfl))) (by decide) (t := .double) (t' := .double) (by decide) (by decide)))).other W47 (Or.inr (slot_ne (Or.inr (hw _ (List.mem_of_getElem? (i := 42) rfl))) (Or.inr (hw _ (List.mem_of_getElem? (i := 58) rfl))) (by decide) (t := .double) (t' := .double) (by decide) (by decide)))).other W50 (Or.inr (slot_ne (Or.inr (hw _ (List.mem_of_getElem? (i := 42) rfl))) (Or.inr (hw _ (List.mem_of_getElem? (i := 60) rfl))) (by decide) (t := .double) (t' := .int) (by decide) (by decide))))
  have f60 : Fld Z h50 ob "com/example/tolc/tolc/ControllerSettings" "raiseBelowError" "D" (.double v8) := ((((((((Fw26.other W29 (Or.inr (slot_ne (Or.inr (hw _ (List.mem_of_getElem? (i := 44) rfl))) (Or.inr (hw _ (List.mem_of_getElem? (i := 46) rfl))) (by decide) (t := .double) (t' := .double) (by decide) (by decide)))).other W32 (Or.inr (slot_ne (Or.inr (hw _ (List.mem_of_getElem? (i := 44) rfl))) (Or.inr (hw _ (List.mem_of_getElem? (i := 48) rfl))) (by decide) (t := .double) (t' := .double) (by decide) (by decide)))).other W35 (Or.inr (slot_ne (Or.inr (hw _ (List.mem_of_getElem? (i := 44) rfl))) (Or.inr (hw _ (List.mem_of_getElem? (i := 50) rfl))) (by decide) (t := .double) (t' := .double) (by decide) (by decide)))).other W38 (Or.inr (slot_ne (Or.inr (hw _ (List.mem_of_getElem? (i := 44) rfl))) (Or.inr (hw _ (List.mem_of_getElem? (i := 52) rfl))) (by decide) (t := .double) (t' := .double) (by decide) (by decide)))).other W41 (Or.inr (slot_ne (Or.inr (hw _ (List.mem_of_getElem? (i := 44) rfl))) (Or.inr (hw _ (List.mem_of_getElem? (i := 54) rfl))) (by decide) (t := .double) (t' := .double) (by decide) (by decide)))).other W44 (Or.inr (slot_ne (Or.inr (hw _ (List.mem_of_getElem? (i := 44) rfl))) (Or.inr (hw _ (List.mem_of_getElem? (i := 56) rfl))) (by decide) (t := .double) (t' := .double) (by decide) (by decide)))).other W47 (Or.inr (slot_ne (Or.inr (hw _ (List.mem_of_getElem? (i := 44) rfl))) (Or.inr (hw _ (List.mem_of_getElem? (i := 58) rfl))) (by decide) (t := .double) (t' := .double) (by decide) (by decide)))).other W50 (Or.inr (slot_ne (Or.inr (hw _ (List.mem_of_getElem? (i := 44) rfl))) (Or.inr (hw _ (List.mem_of_getElem? (i := 60) rfl))) (by decide) (t := .double) (t' := .int) (by decide) (by decide))))
  have f61 : Fld Z h50 ob "com/example/tolc/tolc/ControllerSettings" "raiseFromError" "D" (.double v9) := (((((((Fw29.other W32 (Or.inr (slot_ne (Or.inr (hw _ (List.mem_of_getElem? (i := 46) rfl))) (Or.inr (hw _ (List.mem_of_getElem? (i := 48) rfl))) (by decide) (t := .double) (t' := .double) (by decide) (by decide)))).other W35 (Or.inr (slot_ne (Or.inr (hw _ (List.mem_of_getElem? (i := 46) rfl))) (Or.inr (hw _ (List.mem_of_getElem? (i := 50) rfl))) (by decide) (t := .double) (t' := .double) (by decide) (by decide)))).other W38 (Or.inr (slot_ne (Or.inr (hw _ (List.mem_of_getElem? (i := 46) rfl))) (Or.inr (hw _ (List.mem_of_getElem? (i := 52) rfl))) (by decide) (t := .double) (t' := .double) (by decide) (by decide)))).other W41 (Or.inr (slot_ne (Or.inr (hw _ (List.mem_of_getElem? (i := 46) rfl))) (Or.inr (hw _ (List.mem_of_getElem? (i := 54) rfl))) (by decide) (t := .double) (t' := .double) (by decide) (by decide)))).other W44 (Or.inr (slot_ne (Or.inr (hw _ (List.mem_of_getElem? (i := 46) rfl))) (Or.inr (hw _ (List.mem_of_getElem? (i := 56) rfl))) (by decide) (t := .double) (t' := .double) (by decide) (by decide)))).other W47 (Or.inr (slot_ne (Or.inr (hw _ (List.mem_of_getElem? (i := 46) rfl))) (Or.inr (hw _ (List.mem_of_getElem? (i := 58) rfl))) (by decide) (t := .double) (t' := .double) (by decide) (by decide)))).other W50 (Or.inr (slot_ne (Or.inr (hw _ (List.mem_of_getElem? (i := 46) rfl))) (Or.inr (hw _ (List.mem_of_getElem? (i := 60) rfl))) (by decide) (t := .double) (t' := .int) (by decide) (by decide))))
  have f62 : Fld Z h50 ob "com/example/tolc/tolc/ControllerSettings" "raiseStep" "D" (.double v10) := ((((((Fw32.other W35 (Or.inr (slot_ne (Or.inr (hw _ (List.mem_of_getElem? (i := 48) rfl))) (Or.inr (hw _ (List.mem_of_getElem? (i := 50) rfl))) (by decide) (t := .double) (t' := .double) (by decide) (by decide)))).other W38 (Or.inr (slot_ne (Or.inr (hw _ (List.mem_of_getElem? (i := 48) rfl))) (Or.inr (hw _ (List.mem_of_getElem? (i := 52) rfl))) (by decide) (t := .double) (t' := .double) (by decide) (by decide)))).other W41 (Or.inr (slot_ne (Or.inr (hw _ (List.mem_of_getElem? (i := 48) rfl))) (Or.inr (hw _ (List.mem_of_getElem? (i := 54) rfl))) (by decide) (t := .double) (t' := .double) (by decide) (by decide)))).other W44 (Or.inr (slot_ne (Or.inr (hw _ (List.mem_of_getElem? (i := 48) rfl))) (Or.inr (hw _ (List.mem_of_getElem? (i := 56) rfl))) (by decide) (t := .double) (t' := .double) (by decide) (by decide)))).other W47 (Or.inr (slot_ne (Or.inr (hw _ (List.mem_of_getElem? (i := 48) rfl))) (Or.inr (hw _ (List.mem_of_getElem? (i := 58) rfl))) (by decide) (t := .double) (t' := .double) (by decide) (by decide)))).other W50 (Or.inr (slot_ne (Or.inr (hw _ (List.mem_of_getElem? (i := 48) rfl))) (Or.inr (hw _ (List.mem_of_getElem? (i := 60) rfl))) (by decide) (t := .double) (t' := .int) (by decide) (by decide))))
  have f63 : Fld Z h50 ob "com/example/tolc/tolc/ControllerSettings" "minRatePerSecond" "D" (.double v11) := (((((Fw35.other W38 (Or.inr (slot_ne (Or.inr (hw _ (List.mem_of_getElem? (i := 50) rfl))) (Or.inr (hw _ (List.mem_of_getElem? (i := 52) rfl))) (by decide) (t := .double) (t' := .double) (by decide) (by decide)))).other W41 (Or.inr (slot_ne (Or.inr (hw _ (List.mem_of_getElem? (i := 50) rfl))) (Or.inr (hw _ (List.mem_of_getElem? (i := 54) rfl))) (by decide) (t := .double) (t' := .double) (by decide) (by decide)))).other W44 (Or.inr (slot_ne (Or.inr (hw _ (List.mem_of_getElem? (i := 50) rfl))) (Or.inr (hw _ (List.mem_of_getElem? (i := 56) rfl))) (by decide) (t := .double) (t' := .double) (by decide) (by decide)))).other W47 (Or.inr (slot_ne (Or.inr (hw _ (List.mem_of_getElem? (i := 50) rfl))) (Or.inr (hw _ (List.mem_of_getElem? (i := 58) rfl))) (by decide) (t := .double) (t' := .double) (by decide) (by decide)))).other W50 (Or.inr (slot_ne (Or.inr (hw _ (List.mem_of_getElem? (i := 50) rfl))) (Or.inr (hw _ (List.mem_of_getElem? (i := 60) rfl))) (by decide) (t := .double) (t' := .int) (by decide) (by decide))))
  have f64 : Fld Z h50 ob "com/example/tolc/tolc/ControllerSettings" "maxRatePerSecond" "D" (.double v12) := ((((Fw38.other W41 (Or.inr (slot_ne (Or.inr (hw _ (List.mem_of_getElem? (i := 52) rfl))) (Or.inr (hw _ (List.mem_of_getElem? (i := 54) rfl))) (by decide) (t := .double) (t' := .double) (by decide) (by decide)))).other W44 (Or.inr (slot_ne (Or.inr (hw _ (List.mem_of_getElem? (i := 52) rfl))) (Or.inr (hw _ (List.mem_of_getElem? (i := 56) rfl))) (by decide) (t := .double) (t' := .double) (by decide) (by decide)))).other W47 (Or.inr (slot_ne (Or.inr (hw _ (List.mem_of_getElem? (i := 52) rfl))) (Or.inr (hw _ (List.mem_of_getElem? (i := 58) rfl))) (by decide) (t := .double) (t' := .double) (by decide) (by decide)))).other W50 (Or.inr (slot_ne (Or.inr (hw _ (List.mem_of_getElem? (i := 52) rfl))) (Or.inr (hw _ (List.mem_of_getElem? (i := 60) rfl))) (by decide) (t := .double) (t' := .int) (by decide) (by decide))))
  have f65 : Fld Z h50 ob "com/example/tolc/tolc/ControllerSettings" "initialRatePerSecond" "D" (.double v13) := (((Fw41.other W44 (Or.inr (slot_ne (Or.inr (hw _ (List.mem_of_getElem? (i := 54) rfl))) (Or.inr (hw _ (List.mem_of_getElem? (i := 56) rfl))) (by decide) (t := .double) (t' := .double) (by decide) (by decide)))).other W47 (Or.inr (slot_ne (Or.inr (hw _ (List.mem_of_getElem? (i := 54) rfl))) (Or.inr (hw _ (List.mem_of_getElem? (i := 58) rfl))) (by decide) (t := .double) (t' := .double) (by decide) (by decide)))).other W50 (Or.inr (slot_ne (Or.inr (hw _ (List.mem_of_getElem? (i := 54) rfl))) (Or.inr (hw _ (List.mem_of_getElem? (i := 60) rfl))) (by decide) (t := .double) (t' := .int) (by decide) (by decide))))
  have f66 : Fld Z h50 ob "com/example/tolc/tolc/ControllerSettings" "demandReach" "D" (.double v14) := ((Fw44.other W47 (Or.inr (slot_ne (Or.inr (hw _ (List.mem_of_getElem? (i := 56) rfl))) (Or.inr (hw _ (List.mem_of_getElem? (i := 58) rfl))) (by decide) (t := .double) (t' := .double) (by decide) (by decide)))).other W50 (Or.inr (slot_ne (Or.inr (hw _ (List.mem_of_getElem? (i := 56) rfl))) (Or.inr (hw _ (List.mem_of_getElem? (i := 60) rfl))) (by decide) (t := .double) (t' := .int) (by decide) (by decide))))
  have f67 : Fld Z h50 ob "com/example/tolc/tolc/ControllerSettings" "lowerCutDivisor" "D" (.double v15) := (Fw47.other W50 (Or.inr (slot_ne (Or.inr (hw _ (List.mem_of_getElem? (i := 58) rfl))) (Or.inr (hw _ (List.mem_of_getElem? (i := 60) rfl))) (by decide) (t := .double) (t' := .int) (by decide) (by decide))))
  obtain ⟨fs, hr, hrun, hended, hW, hsame⟩ := X50.leave (v := none) (fun _ => rfl)
  refine ⟨_, _, pre0 _ ?_, hrun, hended, _, _, rfl, ?_, ⟨_, rfl⟩, hW, hsame.mono (by decide) (by decide)⟩
  · show Steps p.tables e below (s₁.setTop (mkF m 0 #[.val (.ref ob), .val (.double v0), .second, .val (.int v1), .val (.long v2), .second, .val (.int v3), .val (.double v4), .second, .val (.double v5), .second, .val (.double v6), .second, .val (.double v7), .second, .val (.double v8), .second, .val (.double v9), .second, .val (.double v10), .second, .val (.double v11), .second, .val (.double v12), .second, .val (.double v13), .second, .val (.double v14), .second, .val (.double v15), .second, .val (.int v16)] [])) _
    refine XS.aloadN X0.here hx rfl (hb hby d1_0) rfl rfl ?_
    show Steps p.tables e below (s₁.setTop (mkF m 1 #[.val (.ref ob), .val (.double v0), .second, .val (.int v1), .val (.long v2), .second, .val (.int v3), .val (.double v4), .second, .val (.double v5), .second, .val (.double v6), .second, .val (.double v7), .second, .val (.double v8), .second, .val (.double v9), .second, .val (.double v10), .second, .val (.double v11), .second, .val (.double v12), .second, .val (.double v13), .second, .val (.double v14), .second, .val (.double v15), .second, .val (.int v16)] [(.ref ob)])) _
    refine st1.trans ?_
    show Steps p.tables e below (T1.setTop (mkF m 4 #[.val (.ref ob), .val (.double v0), .second, .val (.int v1), .val (.long v2), .second, .val (.int v3), .val (.double v4), .second, .val (.double v5), .second, .val (.double v6), .second, .val (.double v7), .second, .val (.double v8), .second, .val (.double v9), .second, .val (.double v10), .second, .val (.double v11), .second, .val (.double v12), .second, .val (.double v13), .second, .val (.double v14), .second, .val (.double v15), .second, .val (.int v16)] [])) _
    refine XS.aloadN X1.here hx rfl (hb hby d1_4) rfl rfl ?_
    show Steps p.tables e below (T1.setTop (mkF m 5 #[.val (.ref ob), .val (.double v0), .second, .val (.int v1), .val (.long v2), .second, .val (.int v3), .val (.double v4), .second, .val (.double v5), .second, .val (.double v6), .second, .val (.double v7), .second, .val (.double v8), .second, .val (.double v9), .second, .val (.double v10), .second, .val (.double v11), .second, .val (.double v12), .second, .val (.double v13), .second, .val (.double v14), .second, .val (.double v15), .second, .val (.int v16)] [(.ref ob)])) _
    refine XS.dloadN X1.here hx rfl (hb hby d1_5) rfl ?_
    show Steps p.tables e below (T1.setTop (mkF m 6 #[.val (.ref ob), .val (.double v0), .second, .val (.int v1), .val (.long v2), .second, .val (.int v3), .val (.double v4), .second, .val (.double v5), .second, .val (.double v6), .second, .val (.double v7), .second, .val (.double v8), .second, .val (.double v9), .second, .val (.double v10), .second, .val (.double v11), .second, .val (.double v12), .second, .val (.double v13), .second, .val (.double v14), .second, .val (.double v15), .second, .val (.int v16)] [(.double v0), (.ref ob)])) _
    refine st2 _ ?_
    show Steps p.tables e below (T2.setTop (mkF m 9 #[.val (.ref ob), .val (.double v0), .second, .val (.int v1), .val (.long v2), .second, .val (.int v3), .val (.double v4), .second, .val (.double v5), .second, .val (.double v6), .second, .val (.double v7), .second, .val (.double v8), .second, .val (.double v9), .second, .val (.double v10), .second, .val (.double v11), .second, .val (.double v12), .second, .val (.double v13), .second, .val (.double v14), .second, .val (.double v15), .second, .val (.int v16)] [])) _
    refine XS.aloadN X2.here hx rfl (hb hby d1_9) rfl rfl ?_
    show Steps p.tables e below (T2.setTop (mkF m 10 #[.val (.ref ob), .val (.double v0), .second, .val (.int v1), .val (.long v2), .second, .val (.int v3), .val (.double v4), .second, .val (.double v5), .second, .val (.double v6), .second, .val (.double v7), .second, .val (.double v8), .second, .val (.double v9), .second, .val (.double v10), .second, .val (.double v11), .second, .val (.double v12), .second, .val (.double v13), .second, .val (.double v14), .second, .val (.double v15), .second, .val (.int v16)] [(.ref ob)])) _
    refine XS.iloadN X2.here hx rfl (hb hby d1_10) rfl ?_
    show Steps p.tables e below (T2.setTop (mkF m 11 #[.val (.ref ob), .val (.double v0), .second, .val (.int v1), .val (.long v2), .second, .val (.int v3), .val (.double v4), .second, .val (.double v5), .second, .val (.double v6), .second, .val (.double v7), .second, .val (.double v8), .second, .val (.double v9), .second, .val (.double v10), .second, .val (.double v11), .second, .val (.double v12), .second, .val (.double v13), .second, .val (.double v14), .second, .val (.double v15), .second, .val (.int v16)] [(.int v1), (.ref ob)])) _
    refine st5 _ ?_
    show Steps p.tables e below (T5.setTop (mkF m 14 #[.val (.ref ob), .val (.double v0), .second, .val (.int v1), .val (.long v2), .second, .val (.int v3), .val (.double v4), .second, .val (.double v5), .second, .val (.double v6), .second, .val (.double v7), .second, .val (.double v8), .second, .val (.double v9), .second, .val (.double v10), .second, .val (.double v11), .second, .val (.double v12), .second, .val (.double v13), .second, .val (.double v14), .second, .val (.double v15), .second, .val (.int v16)] [])) _
    refine XS.aloadN X5.here hx rfl (hb hby d1_14) rfl rfl ?_
    show Steps p.tables e below (T5.setTop (mkF m 15 #[.val (.ref ob), .val (.double v0), .second, .val (.int v1), .val (.long v2), .second, .val (.int v3), .val (.double v4), .second, .val (.double v5), .second, .val (.double v6), .second, .val (.double v7), .second, .val (.double v8), .second, .val (.double v9), .second, .val (.double v10), .second, .val (.double v11), .second, .val (.double v12), .second, .val (.double v13), .second, .val (.double v14), .second, .val (.double v15), .second, .val (.int v16)] [(.ref ob)])) _
    refine XS.lload X5.here hx rfl (hb hby d1_15) rfl ?_
    show Steps p.tables e below (T5.setTop (mkF m 17 #[.val (.ref ob), .val (.double v0), .second, .val (.int v1), .val (.long v2), .second, .val (.int v3), .val (.double v4), .second, .val (.double v5), .second, .val (.double v6), .second, .val (.double v7), .second, .val (.double v8), .second, .val (.double v9), .second, .val (.double v10), .second, .val (.double v11), .second, .val (.double v12), .second, .val (.double v13), .second, .val (.double v14), .second, .val (.double v15), .second, .val (.int v16)] [(.long v2), (.ref ob)])) _
    refine st8 _ ?_
    show Steps p.tables e below (T8.setTop (mkF m 20 #[.val (.ref ob), .val (.double v0), .second, .val (.int v1), .val (.long v2), .second, .val (.int v3), .val (.double v4), .second, .val (.double v5), .second, .val (.double v6), .second, .val (.double v7), .second, .val (.double v8), .second, .val (.double v9), .second, .val (.double v10), .second, .val (.double v11), .second, .val (.double v12), .second, .val (.double v13), .second, .val (.double v14), .second, .val (.double v15), .second, .val (.int v16)] [])) _
    refine XS.aloadN X8.here hx rfl (hb hby d1_20) rfl rfl ?_
    show Steps p.tables e below (T8.setTop (mkF m 21 #[.val (.ref ob), .val (.double v0), .second, .val (.int v1), .val (.long v2), .second, .val (.int v3), .val (.double v4), .second, .val (.double v5), .second, .val (.double v6), .second, .val (.double v7), .second, .val (.double v8), .second, .val (.double v9), .second, .val (.double v10), .second, .val (.double v11), .second, .val (.double v12), .second, .val (.double v13), .second, .val (.double v14), .second, .val (.double v15), .second, .val (.int v16)] [(.ref ob)])) _
    refine XS.iload X8.here hx rfl (hb hby d1_21) rfl ?_
    show Steps p.tables e below (T8.setTop (mkF m 23 #[.val (.ref ob), .val (.double v0), .second, .val (.int v1), .val (.long v2), .second, .val (.int v3), .val (.double v4), .second, .val (.double v5), .second, .val (.double v6), .second, .val (.double v7), .second, .val (.double v8), .second, .val (.double v9), .second, .val (.double v10), .second, .val (.double v11), .second, .val (.double v12), .second, .val (.double v13), .second, .val (.double v14), .second, .val (.double v15), .second, .val (.int v16)] [(.int v3), (.ref ob)])) _
    refine st11 _ ?_
    show Steps p.tables e below (T11.setTop (mkF m 26 #[.val (.ref ob), .val (.double v0), .second, .val (.int v1), .val (.long v2), .second, .val (.int v3), .val (.double v4), .second, .val (.double v5), .second, .val (.double v6), .second, .val (.double v7), .second, .val (.double v8), .second, .val (.double v9), .second, .val (.double v10), .second, .val (.double v11), .second, .val (.double v12), .second, .val (.double v13), .second, .val (.double v14), .second, .val (.double v15), .second, .val (.int v16)] [])) _
    refine XS.aloadN X11.here hx rfl (hb hby d1_26) rfl rfl ?_
    show Steps p.tables e below (T11.setTop (mkF m 27 #[.val (.ref ob), .val (.double v0), .second, .val (.int v1), .val (.long v2), .second, .val (.int v3), .val (.double v4), .second, .val (.double v5), .second, .val (.double v6), .second, .val (.double v7), .second, .val (.double v8), .second, .val (.double v9), .second, .val (.double v10), .second, .val (.double v11), .second, .val (.double v12), .second, .val (.double v13), .second, .val (.double v14), .second, .val (.double v15), .second, .val (.int v16)] [(.ref ob)])) _
    refine XS.dload X11.here hx rfl (hb hby d1_27) rfl ?_
    show Steps p.tables e below (T11.setTop (mkF m 29 #[.val (.ref ob), .val (.double v0), .second, .val (.int v1), .val (.long v2), .second, .val (.int v3), .val (.double v4), .second, .val (.double v5), .second, .val (.double v6), .second, .val (.double v7), .second, .val (.double v8), .second, .val (.double v9), .second, .val (.double v10), .second, .val (.double v11), .second, .val (.double v12), .second, .val (.double v13), .second, .val (.double v14), .second, .val (.double v15), .second, .val (.int v16)] [(.double v4), (.ref ob)])) _
    refine st14 _ ?_
    show Steps p.tables e below (T14.setTop (mkF m 32 #[.val (.ref ob), .val (.double v0), .second, .val (.int v1), .val (.long v2), .second, .val (.int v3), .val (.double v4), .second, .val (.double v5), .second, .val (.double v6), .second, .val (.double v7), .second, .val (.double v8), .second, .val (.double v9), .second, .val (.double v10), .second, .val (.double v11), .second, .val (.double v12), .second, .val (.double v13), .second, .val (.double v14), .second, .val (.double v15), .second, .val (.int v16)] [])) _
    refine XS.aloadN X14.here hx rfl (hb hby d1_32) rfl rfl ?_
    show Steps p.tables e below (T14.setTop (mkF m 33 #[.val (.ref ob), .val (.double v0), .second, .val (.int v1), .val (.long v2), .second, .val (.int v3), .val (.double v4), .second, .val (.double v5), .second, .val (.double v6), .second, .val (.double v7), .second, .val (.double v8), .second, .val (.double v9), .second, .val (.double v10), .second, .val (.double v11), .second, .val (.double v12), .second, .val (.double v13), .second, .val (.double v14), .second, .val (.double v15), .second, .val (.int v16)] [(.ref ob)])) _
    refine XS.dload X14.here hx rfl (hb hby d1_33) rfl ?_
    show Steps p.tables e below (T14.setTop (mkF m 35 #[.val (.ref ob), .val (.double v0), .second, .val (.int v1), .val (.long v2), .second, .val (.int v3), .val (.double v4), .second, .val (.double v5), .second, .val (.double v6), .second, .val (.double v7), .second, .val (.double v8), .second, .val (.double v9), .second, .val (.double v10), .second, .val (.double v11), .second, .val (.double v12), .second, .val (.double v13), .second, .val (.double v14), .second, .val (.double v15), .second, .val (.int v16)] [(.double v5), (.ref ob)])) _
    refine st17 _ ?_
    show Steps p.tables e below (T17.setTop (mkF m 38 #[.val (.ref ob), .val (.double v0), .second, .val (.int v1), .val (.long v2), .second, .val (.int v3), .val (.double v4), .second, .val (.double v5), .second, .val (.double v6), .second, .val (.double v7), .second, .val (.double v8), .second, .val (.double v9), .second, .val (.double v10), .second, .val (.double v11), .second, .val (.double v12), .second, .val (.double v13), .second, .val (.double v14), .second, .val (.double v15), .second, .val (.int v16)] [])) _
    refine XS.aloadN X17.here hx rfl (hb hby d1_38) rfl rfl ?_
    show Steps p.tables e below (T17.setTop (mkF m 39 #[.val (.ref ob), .val (.double v0), .second, .val (.int v1), .val (.long v2), .second, .val (.int v3), .val (.double v4), .second, .val (.double v5), .second, .val (.double v6), .second, .val (.double v7), .second, .val (.double v8), .second, .val (.double v9), .second, .val (.double v10), .second, .val (.double v11), .second, .val (.double v12), .second, .val (.double v13), .second, .val (.double v14), .second, .val (.double v15), .second, .val (.int v16)] [(.ref ob)])) _
    refine XS.dload X17.here hx rfl (hb hby d1_39) rfl ?_
    show Steps p.tables e below (T17.setTop (mkF m 41 #[.val (.ref ob), .val (.double v0), .second, .val (.int v1), .val (.long v2), .second, .val (.int v3), .val (.double v4), .second, .val (.double v5), .second, .val (.double v6), .second, .val (.double v7), .second, .val (.double v8), .second, .val (.double v9), .second, .val (.double v10), .second, .val (.double v11), .second, .val (.double v12), .second, .val (.double v13), .second, .val (.double v14), .second, .val (.double v15), .second, .val (.int v16)] [(.double v6), (.ref ob)])) _
    refine st20 _ ?_
    show Steps p.tables e below (T20.setTop (mkF m 44 #[.val (.ref ob), .val (.double v0), .second, .val (.int v1), .val (.long v2), .second, .val (.int v3), .val (.double v4), .second, .val (.double v5), .second, .val (.double v6), .second, .val (.double v7), .second, .val (.double v8), .second, .val (.double v9), .second, .val (.double v10), .second, .val (.double v11), .second, .val (.double v12), .second, .val (.double v13), .second, .val (.double v14), .second, .val (.double v15), .second, .val (.int v16)] [])) _
    refine XS.aloadN X20.here hx rfl (hb hby d1_44) rfl rfl ?_
    show Steps p.tables e below (T20.setTop (mkF m 45 #[.val (.ref ob), .val (.double v0), .second, .val (.int v1), .val (.long v2), .second, .val (.int v3), .val (.double v4), .second, .val (.double v5), .second, .val (.double v6), .second, .val (.double v7), .second, .val (.double v8), .second, .val (.double v9), .second, .val (.double v10), .second, .val (.double v11), .second, .val (.double v12), .second, .val (.double v13), .second, .val (.double v14), .second, .val (.double v15), .second, .val (.int v16)] [(.ref ob)])) _
    refine XS.dload X20.here hx rfl (hb hby d1_45) rfl ?_
    show Steps p.tables e below (T20.setTop (mkF m 47 #[.val (.ref ob), .val (.double v0), .second, .val (.int v1), .val (.long v2), .second, .val (.int v3), .val (.double v4), .second, .val (.double v5), .second, .val (.double v6), .second, .val (.double v7), .second, .val (.double v8), .second, .val (.double v9), .second, .val (.double v10), .second, .val (.double v11), .second, .val (.double v12), .second, .val (.double v13), .second, .val (.double v14), .second, .val (.double v15), .second, .val (.int v16)] [(.double v7), (.ref ob)])) _
    refine st23 _ ?_
    show Steps p.tables e below (T23.setTop (mkF m 50 #[.val (.ref ob), .val (.double v0), .second, .val (.int v1), .val (.long v2), .second, .val (.int v3), .val (.double v4), .second, .val (.double v5), .second, .val (.double v6), .second, .val (.double v7), .second, .val (.double v8), .second, .val (.double v9), .second, .val (.double v10), .second, .val (.double v11), .second, .val (.double v12), .second, .val (.double v13), .second, .val (.double v14), .second, .val (.double v15), .second, .val (.int v16)] [])) _
    refine XS.aloadN X23.here hx rfl (hb hby d1_50) rfl rfl ?_
    show Steps p.tables e below (T23.setTop (mkF m 51 #[.val (.ref ob), .val (.double v0), .second, .val (.int v1), .val (.long v2), .second, .val (.int v3), .val (.double v4), .second, .val (.double v5), .second, .val (.double v6), .second, .val (.double v7), .second, .val (.double v8), .second, .val (.double v9), .second, .val (.double v10), .second, .val (.double v11), .second, .val (.double v12), .second, .val (.double v13), .second, .val (.double v14), .second, .val (.double v15), .second, .val (.int v16)] [(.ref ob)])) _
    refine XS.dload X23.here hx rfl (hb hby d1_51) rfl ?_
    show Steps p.tables e below (T23.setTop (mkF m 53 #[.val (.ref ob), .val (.double v0), .second, .val (.int v1), .val (.long v2), .second, .val (.int v3), .val (.double v4), .second, .val (.double v5), .second, .val (.double v6), .second, .val (.double v7), .second, .val (.double v8), .second, .val (.double v9), .second, .val (.double v10), .second, .val (.double v11), .second, .val (.double v12), .second, .val (.double v13), .second, .val (.double v14), .second, .val (.double v15), .second, .val (.int v16)] [(.double v8), (.ref ob)])) _
    refine st26 _ ?_
    show Steps p.tables e below (T26.setTop (mkF m 56 #[.val (.ref ob), .val (.double v0), .second, .val (.int v1), .val (.long v2), .second, .val (.int v3), .val (.double v4), .second, .val (.double v5), .second, .val (.double v6), .second, .val (.double v7), .second, .val (.double v8), .second, .val (.double v9), .second, .val (.double v10), .second, .val (.double v11), .second, .val (.double v12), .second, .val (.double v13), .second, .val (.double v14), .second, .val (.double v15), .second, .val (.int v16)] [])) _
    refine XS.aloadN X26.here hx rfl (hb hby d1_56) rfl rfl ?_
    show Steps p.tables e below (T26.setTop (mkF m 57 #[.val (.ref ob), .val (.double v0), .second, .val (.int v1), .val (.long v2), .second, .val (.int v3), .val (.double v4), .second, .val (.double v5), .second, .val (.double v6), .second, .val (.double v7), .second, .val (.double v8), .second, .val (.double v9), .second, .val (.double v10), .second, .val (.double v11), .second, .val (.double v12), .second, .val (.double v13), .second, .val (.double v14), .second, .val (.double v15), .second, .val (.int v16)] [(.ref ob)])) _
    refine XS.dload X26.here hx rfl (hb hby d1_57) rfl ?_
    show Steps p.tables e below (T26.setTop (mkF m 59 #[.val (.ref ob), .val (.double v0), .second, .val (.int v1), .val (.long v2), .second, .val (.int v3), .val (.double v4), .second, .val (.double v5), .second, .val (.double v6), .second, .val (.double v7), .second, .val (.double v8), .second, .val (.double v9), .second, .val (.double v10), .second, .val (.double v11), .second, .val (.double v12), .second, .val (.double v13), .second, .val (.double v14), .second, .val (.double v15), .second, .val (.int v16)] [(.double v9), (.ref ob)])) _
    refine st29 _ ?_
    show Steps p.tables e below (T29.setTop (mkF m 62 #[.val (.ref ob), .val (.double v0), .second, .val (.int v1), .val (.long v2), .second, .val (.int v3), .val (.double v4), .second, .val (.double v5), .second, .val (.double v6), .second, .val (.double v7), .second, .val (.double v8), .second, .val (.double v9), .second, .val (.double v10), .second, .val (.double v11), .second, .val (.double v12), .second, .val (.double v13), .second, .val (.double v14), .second, .val (.double v15), .second, .val (.int v16)] [])) _
    refine XS.aloadN X29.here hx rfl (hb hby d1_62) rfl rfl ?_
    show Steps p.tables e below (T29.setTop (mkF m 63 #[.val (.ref ob), .val (.double v0), .second, .val (.int v1), .val (.long v2), .second, .val (.int v3), .val (.double v4), .second, .val (.double v5), .second, .val (.double v6), .second, .val (.double v7), .second, .val (.double v8), .second, .val (.double v9), .second, .val (.double v10), .second, .val (.double v11), .second, .val (.double v12), .second, .val (.double v13), .second, .val (.double v14), .second, .val (.double v15), .second, .val (.int v16)] [(.ref ob)])) _
    refine XS.dload X29.here hx rfl (hb hby d1_63) rfl ?_
    show Steps p.tables e below (T29.setTop (mkF m 65 #[.val (.ref ob), .val (.double v0), .second, .val (.int v1), .val (.long v2), .second, .val (.int v3), .val (.double v4), .second, .val (.double v5), .second, .val (.double v6), .second, .val (.double v7), .second, .val (.double v8), .second, .val (.double v9), .second, .val (.double v10), .second, .val (.double v11), .second, .val (.double v12), .second, .val (.double v13), .second, .val (.double v14), .second, .val (.double v15), .second, .val (.int v16)] [(.double v10), (.ref ob)])) _
    refine st32 _ ?_
    show Steps p.tables e below (T32.setTop (mkF m 68 #[.val (.ref ob), .val (.double v0), .second, .val (.int v1), .val (.long v2), .second, .val (.int v3), .val (.double v4), .second, .val (.double v5), .second, .val (.double v6), .second, .val (.double v7), .second, .val (.double v8), .second, .val (.double v9), .second, .val (.double v10), .second, .val (.double v11), .second, .val (.double v12), .second, .val (.double v13), .second, .val (.double v14), .second, .val (.double v15), .second, .val (.int v16)] [])) _
    refine XS.aloadN X32.here hx rfl (hb hby d1_68) rfl rfl ?_
    show Steps p.tables e below (T32.setTop (mkF m 69 #[.val (.ref ob), .val (.double v0), .second, .val (.int v1), .val (.long v2), .second, .val (.int v3), .val (.double v4), .second, .val (.double v5), .second, .val (.double v6), .second, .val (.double v7), .second, .val (.double v8), .second, .val (.double v9), .second, .val (.double v10), .second, .val (.double v11), .second, .val (.double v12), .second, .val (.double v13), .second, .val (.double v14), .second, .val (.double v15), .second, .val (.int v16)] [(.ref ob)])) _
    refine XS.dload X32.here hx rfl (hb hby d1_69) rfl ?_
    show Steps p.tables e below (T32.setTop (mkF m 71 #[.val (.ref ob), .val (.double v0), .second, .val (.int v1), .val (.long v2), .second, .val (.int v3), .val (.double v4), .second, .val (.double v5), .second, .val (.double v6), .second, .val (.double v7), .second, .val (.double v8), .second, .val (.double v9), .second, .val (.double v10), .second, .val (.double v11), .second, .val (.double v12), .second, .val (.double v13), .second, .val (.double v14), .second, .val (.double v15), .second, .val (.int v16)] [(.double v11), (.ref ob)])) _
    refine st35 _ ?_
    show Steps p.tables e below (T35.setTop (mkF m 74 #[.val (.ref ob), .val (.double v0), .second, .val (.int v1), .val (.long v2), .second, .val (.int v3), .val (.double v4), .second, .val (.double v5), .second, .val (.double v6), .second, .val (.double v7), .second, .val (.double v8), .second, .val (.double v9), .second, .val (.double v10), .second, .val (.double v11), .second, .val (.double v12), .second, .val (.double v13), .second, .val (.double v14), .second, .val (.double v15), .second, .val (.int v16)] [])) _
    refine XS.aloadN X35.here hx rfl (hb hby d1_74) rfl rfl ?_
    show Steps p.tables e below (T35.setTop (mkF m 75 #[.val (.ref ob), .val (.double v0), .second, .val (.int v1), .val (.long v2), .second, .val (.int v3), .val (.double v4), .second, .val (.double v5), .second, .val (.double v6), .second, .val (.double v7), .second, .val (.double v8), .second, .val (.double v9), .second, .val (.double v10), .second, .val (.double v11), .second, .val (.double v12), .second, .val (.double v13), .second, .val (.double v14), .second, .val (.double v15), .second, .val (.int v16)] [(.ref ob)])) _
    refine XS.dload X35.here hx rfl (hb hby d1_75) rfl ?_
    show Steps p.tables e below (T35.setTop (mkF m 77 #[.val (.ref ob), .val (.double v0), .second, .val (.int v1), .val (.long v2), .second, .val (.int v3), .val (.double v4), .second, .val (.double v5), .second, .val (.double v6), .second, .val (.double v7), .second, .val (.double v8), .second, .val (.double v9), .second, .val (.double v10), .second, .val (.double v11), .second, .val (.double v12), .second, .val (.double v13), .second, .val (.double v14), .second, .val (.double v15), .second, .val (.int v16)] [(.double v12), (.ref ob)])) _
    refine st38 _ ?_
    show Steps p.tables e below (T38.setTop (mkF m 80 #[.val (.ref ob), .val (.double v0), .second, .val (.int v1), .val (.long v2), .second, .val (.int v3), .val (.double v4), .second, .val (.double v5), .second, .val (.double v6), .second, .val (.double v7), .second, .val (.double v8), .second, .val (.double v9), .second, .val (.double v10), .second, .val (.double v11), .second, .val (.double v12), .second, .val (.double v13), .second, .val (.double v14), .second, .val (.double v15), .second, .val (.int v16)] [])) _
    refine XS.aloadN X38.here hx rfl (hb hby d1_80) rfl rfl ?_
    show Steps p.tables e below (T38.setTop (mkF m 81 #[.val (.ref ob), .val (.double v0), .second, .val (.int v1), .val (.long v2), .second, .val (.int v3), .val (.double v4), .second, .val (.double v5), .second, .val (.double v6), .second, .val (.double v7), .second, .val (.double v8), .second, .val (.double v9), .second, .val (.double v10), .second, .val (.double v11), .second, .val (.double v12), .second, .val (.double v13), .second, .val (.double v14), .second, .val (.double v15), .second, .val (.int v16)] [(.ref ob)])) _
    refine XS.dload X38.here hx rfl (hb hby d1_81) rfl ?_
    show Steps p.tables e below (T38.setTop (mkF m 83 #[.val (.ref ob), .val (.double v0), .second, .val (.int v1), .val (.long v2), .second, .val (.int v3), .val (.double v4), .second, .val (.double v5), .second, .val (.double v6), .second, .val (.double v7), .second, .val (.double v8), .second, .val (.double v9), .second, .val (.double v10), .second, .val (.double v11), .second, .val (.double v12), .second, .val (.double v13), .second, .val (.double v14), .second, .val (.double v15), .second, .val (.int v16)] [(.double v13), (.ref ob)])) _
    refine st41 _ ?_
    show Steps p.tables e below (T41.setTop (mkF m 86 #[.val (.ref ob), .val (.double v0), .second, .val (.int v1), .val (.long v2), .second, .val (.int v3), .val (.double v4), .second, .val (.double v5), .second, .val (.double v6), .second, .val (.double v7), .second, .val (.double v8), .second, .val (.double v9), .second, .val (.double v10), .second, .val (.double v11), .second, .val (.double v12), .second, .val (.double v13), .second, .val (.double v14), .second, .val (.double v15), .second, .val (.int v16)] [])) _
    refine XS.aloadN X41.here hx rfl (hb hby d1_86) rfl rfl ?_
    show Steps p.tables e below (T41.setTop (mkF m 87 #[.val (.ref ob), .val (.double v0), .second, .val (.int v1), .val (.long v2), .second, .val (.int v3), .val (.double v4), .second, .val (.double v5), .second, .val (.double v6), .second, .val (.double v7), .second, .val (.double v8), .second, .val (.double v9), .second, .val (.double v10), .second, .val (.double v11), .second, .val (.double v12), .second, .val (.double v13), .second, .val (.double v14), .second, .val (.double v15), .second, .val (.int v16)] [(.ref ob)])) _
    refine XS.dload X41.here hx rfl (hb hby d1_87) rfl ?_
    show Steps p.tables e below (T41.setTop (mkF m 89 #[.val (.ref ob), .val (.double v0), .second, .val (.int v1), .val (.long v2), .second, .val (.int v3), .val (.double v4), .second, .val (.double v5), .second, .val (.double v6), .second, .val (.double v7), .second, .val (.double v8), .second, .val (.double v9), .second, .val (.double v10), .second, .val (.double v11), .second, .val (.double v12), .second, .val (.double v13), .second, .val (.double v14), .second, .val (.double v15), .second, .val (.int v16)] [(.double v14), (.ref ob)])) _
    refine st44 _ ?_
    show Steps p.tables e below (T44.setTop (mkF m 92 #[.val (.ref ob), .val (.double v0), .second, .val (.int v1), .val (.long v2), .second, .val (.int v3), .val (.double v4), .second, .val (.double v5), .second, .val (.double v6), .second, .val (.double v7), .second, .val (.double v8), .second, .val (.double v9), .second, .val (.double v10), .second, .val (.double v11), .second, .val (.double v12), .second, .val (.double v13), .second, .val (.double v14), .second, .val (.double v15), .second, .val (.int v16)] [])) _
    refine XS.aloadN X44.here hx rfl (hb hby d1_92) rfl rfl ?_
    show Steps p.tables e below (T44.setTop (mkF m 93 #[.val (.ref ob), .val (.double v0), .second, .val (.int v1), .val (.long v2), .second, .val (.int v3), .val (.double v4), .second, .val (.double v5), .second, .val (.double v6), .second, .val (.double v7), .second, .val (.double v8), .second, .val (.double v9), .second, .val (.double v10), .second, .val (.double v11), .second, .val (.double v12), .second, .val (.double v13), .second, .val (.double v14), .second, .val (.double v15), .second, .val (.int v16)] [(.ref ob)])) _
    refine XS.dload X44.here hx rfl (hb hby d1_93) rfl ?_
    show Steps p.tables e below (T44.setTop (mkF m 95 #[.val (.ref ob), .val (.double v0), .second, .val (.int v1), .val (.long v2), .second, .val (.int v3), .val (.double v4), .second, .val (.double v5), .second, .val (.double v6), .second, .val (.double v7), .second, .val (.double v8), .second, .val (.double v9), .second, .val (.double v10), .second, .val (.double v11), .second, .val (.double v12), .second, .val (.double v13), .second, .val (.double v14), .second, .val (.double v15), .second, .val (.int v16)] [(.double v15), (.ref ob)])) _
    refine st47 _ ?_
    show Steps p.tables e below (T47.setTop (mkF m 98 #[.val (.ref ob), .val (.double v0), .second, .val (.int v1), .val (.long v2), .second, .val (.int v3), .val (.double v4), .second, .val (.double v5), .second, .val (.double v6), .second, .val (.double v7), .second, .val (.double v8), .second, .val (.double v9), .second, .val (.double v10), .second, .val (.double v11), .second, .val (.double v12), .second, .val (.double v13), .second, .val (.double v14), .second, .val (.double v15), .second, .val (.int v16)] [])) _
    refine XS.aloadN X47.here hx rfl (hb hby d1_98) rfl rfl ?_
    show Steps p.tables e below (T47.setTop (mkF m 99 #[.val (.ref ob), .val (.double v0), .second, .val (.int v1), .val (.long v2), .second, .val (.int v3), .val (.double v4), .second, .val (.double v5), .second, .val (.double v6), .second, .val (.double v7), .second, .val (.double v8), .second, .val (.double v9), .second, .val (.double v10), .second, .val (.double v11), .second, .val (.double v12), .second, .val (.double v13), .second, .val (.double v14), .second, .val (.double v15), .second, .val (.int v16)] [(.ref ob)])) _
    refine XS.iload X47.here hx rfl (hb hby d1_99) rfl ?_
    show Steps p.tables e below (T47.setTop (mkF m 101 #[.val (.ref ob), .val (.double v0), .second, .val (.int v1), .val (.long v2), .second, .val (.int v3), .val (.double v4), .second, .val (.double v5), .second, .val (.double v6), .second, .val (.double v7), .second, .val (.double v8), .second, .val (.double v9), .second, .val (.double v10), .second, .val (.double v11), .second, .val (.double v12), .second, .val (.double v13), .second, .val (.double v14), .second, .val (.double v15), .second, .val (.int v16)] [(.int v16), (.ref ob)])) _
    refine st50 _ ?_
    show Steps p.tables e below (T50.setTop (mkF m 104 #[.val (.ref ob), .val (.double v0), .second, .val (.int v1), .val (.long v2), .second, .val (.int v3), .val (.double v4), .second, .val (.double v5), .second, .val (.double v6), .second, .val (.double v7), .second, .val (.double v8), .second, .val (.double v9), .second, .val (.double v10), .second, .val (.double v11), .second, .val (.double v12), .second, .val (.double v13), .second, .val (.double v14), .second, .val (.double v15), .second, .val (.int v16)] [])) _
    exact X50.returnOut hx Bd.returns (hb hby d1_104) hr
  · show Q_rmI Z ob v0 v1 v2 v3 v4 v5 v6 v7 v8 v9 v10 v11 v12 v13 v14 v15 v16 u_targetP90Millis_ob u_samplesPerRun_ob u_timeoutMillis_ob u_earlyRunSamples_ob u_smoothing_ob u_completionSmoothing_ob u_cutAboveError_ob u_cutDivisor_ob u_raiseBelowError_ob u_raiseFromError_ob u_raiseStep_ob u_minRatePerSecond_ob u_maxRatePerSecond_ob u_initialRatePerSecond_ob u_demandReach_ob u_lowerCutDivisor_ob u_ownCutRuns_ob h0 n0 _ T50.heap _
    rw [e50]
    exact ⟨rfl, N50, ((((((((((((((((((Keep.refl h0 [ob]).wr W2 (Or.inl (List.mem_of_getElem? (i := 0) rfl))).wr W5 (Or.inl (List.mem_of_getElem? (i := 0) rfl))).wr W8 (Or.inl (List.mem_of_getElem? (i := 0) rfl))).wr W11 (Or.inl (List.mem_of_getElem? (i := 0) rfl))).wr W14 (Or.inl (List.mem_of_getElem? (i := 0) rfl))).wr W17 (Or.inl (List.mem_of_getElem? (i := 0) rfl))).wr W20 (Or.inl (List.mem_of_getElem? (i := 0) rfl))).wr W23 (Or.inl (List.mem_of_getElem? (i := 0) rfl))).wr W26 (Or.inl (List.mem_of_getElem? (i := 0) rfl))).wr W29 (Or.inl (List.mem_of_getElem? (i := 0) rfl))).wr W32 (Or.inl (List.mem_of_getElem? (i := 0) rfl))).wr W35 (Or.inl (List.mem_of_getElem? (i := 0) rfl))).wr W38 (Or.inl (List.mem_of_getElem? (i := 0) rfl))).wr W41 (Or.inl (List.mem_of_getElem? (i := 0) rfl))).wr W44 (Or.inl (List.mem_of_getElem? (i := 0) rfl))).wr W47 (Or.inl (List.mem_of_getElem? (i := 0) rfl))).wr W50 (Or.inl (List.mem_of_getElem? (i := 0) rfl))), f51, f52, f53, f54, f55, f56, f57, f58, f59, f60, f61, f62, f63, f64, f65, f66, f67, Fw50⟩
theorem d2_0 : decode prog_8_method_2_code 0 = .ok (.new 8, 3) := by decide +kernel
theorem d2_3 : decode prog_8_method_2_code 3 = .ok (.dup, 1) := by decide +kernel
theorem d2_4 : decode prog_8_method_2_code 4 = .ok (.dload_n 0, 1) := by decide +kernel
theorem d2_5 : decode prog_8_method_2_code 5 = .ok (.bipush 100, 2) := by decide +kernel
theorem d2_7 : decode prog_8_method_2_code 7 = .ok (.ldc2_w 63, 3) := by decide +kernel
theorem d2_10 : decode prog_8_method_2_code 10 = .ok (.bipush 20, 2) := by decide +kernel
theorem d2_12 : decode prog_8_method_2_code 12 = .ok (.ldc2_w 65, 3) := by decide +kernel
theorem d2_15 : decode prog_8_method_2_code 15 = .ok (.ldc2_w 67, 3) := by decide +kernel
theorem d2_18 : decode prog_8_method_2_code 18 = .ok (.dconst 0, 1) := by decide +kernel
theorem d2_19 : decode prog_8_method_2_code 19 = .ok (.ldc2_w 69, 3) := by decide +kernel
theorem d2_22 : decode prog_8_method_2_code 22 = .ok (.ldc2_w 71, 3) := by decide +kernel
theorem d2_25 : decode prog_8_method_2_code 25 = .ok (.ldc2_w 71, 3) := by decide +kernel
theorem d2_28 : decode prog_8_method_2_code 28 = .ok (.ldc2_w 73, 3) := by decide +kernel
theorem d2_31 : decode prog_8_method_2_code 31 = .ok (.dconst 1, 1) := by decide +kernel
theorem d2_32 : decode prog_8_method_2_code 32 = .ok (.ldc2_w 75, 3) := by decide +kernel
theorem d2_35 : decode prog_8_method_2_code 35 = .ok (.ldc2_w 77, 3) := by decide +kernel
theorem d2_38 : decode prog_8_method_2_code 38 = .ok (.ldc2_w 79, 3) := by decide +kernel
theorem d2_41 : decode prog_8_method_2_code 41 = .ok (.ldc2_w 73, 3) := by decide +kernel
theorem d2_44 : decode prog_8_method_2_code 44 = .ok (.bipush 20, 2) := by decide +kernel
theorem d2_46 : decode prog_8_method_2_code 46 = .ok (.invokespecial 81, 3) := by decide +kernel
theorem pd_1 : parseMethodDescriptor "(DIJIDDDDDDDDDDDDI)V" = some ⟨[.double, .int, .long, .int, .double, .double, .double, .double, .double, .double, .double, .double, .double, .double, .double, .double, .int], none⟩ := by decide +kernel
theorem d2_49 : decode prog_8_method_2_code 49 = .ok (.areturn, 1) := by decide +kernel
def Q_rmF (Z : State) (t0 : UInt64) (h0 : Heap) (n0 : Nat) (v : Option Value) (h : Heap) (L : List Loc) : Prop := ∃ nb : Addr, v = some (.ref nb) ∧ Fr n0 L ∧ h0.size ≤ nb ∧ Keep h0 h [] ∧ Exa Z h nb "com/example/tolc/tolc/ControllerSettings" ∧ Fld Z h nb "com/example/tolc/tolc/ControllerSettings" "targetP90Millis" "D" (.double t0) ∧ Fld Z h nb "com/example/tolc/tolc/ControllerSettings" "samplesPerRun" "I" (.int (100 : Int32)) ∧ Fld Z h nb "com/example/tolc/tolc/ControllerSettings" "timeoutMillis" "J" (.long (1000 : Int64)) ∧ Fld Z h nb "com/example/tolc/tolc/ControllerSettings" "earlyRunSamples" "I" (.int (20 : Int32)) ∧ Fld Z h nb "com/example/tolc/tolc/ControllerSettings" "smoothing" "D" (.double 4602678819172646912) ∧ Fld Z h nb "com/example/tolc/tolc/ControllerSettings" "completionSmoothing" "D" (.double 4605380978949069210) ∧ Fld Z h nb "com/example/tolc/tolc/ControllerSettings" "cutAboveError" "D" (.double 0) ∧ Fld Z h nb "com/example/tolc/tolc/ControllerSettings" "cutDivisor" "D" (.double 4608083138725491507) ∧ Fld Z h nb "com/example/tolc/tolc/ControllerSettings" "raiseBelowError" "D" (.double 13822447976325526323) ∧ Fld Z h nb "com/example/tolc/tolc/ControllerSettings" "raiseFromError" "D" (.double 13822447976325526323) ∧ Fld Z h nb "com/example/tolc/tolc/ControllerSettings" "raiseStep" "D" (.double 4621819117588971520) ∧ Fld Z h nb "com/example/tolc/tolc/ControllerSettings" "minRatePerSecond" "D" (.double 4607182418800017408) ∧ Fld Z h nb "com/example/tolc/tolc/ControllerSettings" "maxRatePerSecond" "D" (.double 4696837146684686336) ∧ Fld Z h nb "com/example/tolc/tolc/ControllerSettings" "initialRatePerSecond" "D" (.double 4636737291354636288) ∧ Fld Z h nb "com/example/tolc/tolc/ControllerSettings" "demandReach" "D" (.double 4611686018427387904) ∧ Fld Z h nb "com/example/tolc/tolc/ControllerSettings" "lowerCutDivisor" "D" (.double 4621819117588971520) ∧ Fld Z h nb "com/example/tolc/tolc/ControllerSettings" "ownCutRuns" "I" (.int (20 : Int32))
theorem ef_rmF (m : MethodId) (t0 : UInt64) : entryFrame m #[(.double t0)] 2 = mkF m 0 #[.val (.double t0), .second] [] := by first | (simp [entryFrame, mkF, argsToLocals, Value.category]; done) | rfl
set_option maxRecDepth 65536 in
set_option maxHeartbeats 40000000 in
theorem rmF (l : Launch) (Z : State) (a0 : Array Value) (hw : ∀ d ∈ tables_1, d.before a0 Z = true) (ws : List Jvm.Cond) (t0 : UInt64) (h0 : Heap) (n0 : Nat) (Z0 : n0 ≤ h0.size) :
    MetFree l (⟨"com/example/tolc/tolc/ControllerSettings", "forTarget", "(D)Lcom/example/tolc/tolc/ControllerSettings;"⟩ : MethodName) (head1 (Jvm.Cond.code (⟨"com/example/tolc/tolc/ControllerSettings", "forTarget", "(D)Lcom/example/tolc/tolc/ControllerSettings;"⟩ : MethodName) prog_8_method_2_code 2 (some (.object "com/example/tolc/tolc/ControllerSettings")) :: ws) ({ frames := 3, cells := 1, slots := 17, locals := 68 } : Room)) (fun a U => a = #[(.double t0)] ∧ Z.Warmed39 U.vm ∧ U.heap = h0) (fun _ _ _ _ _ => True) (fun _ U o U' => ∃ v L, o = .returned v ∧ Q_rmF Z t0 h0 n0 v U'.heap L ∧ FrameEnd U o U' L ({ frames := 3, cells := 1, slots := 17, locals := 68 } : Room).cells ({ frames := 3, cells := 1, slots := 17, locals := 68 } : Room).slots) := by
  refine MetFree.of_bodySF (plainFor_of_name pn_1) hisR ?_
  intro p e s m args below meth c s₁ Bd hml0 hP hK
  obtain ⟨rfl, hZ, hh⟩ := hP
  have hx := Bd.exec
  have hby := Bd.bytes
  have hml : c.maxLocals = 2 := hml0
  have hown : s.vm.findClass "com/example/tolc/tolc/ControllerSettings" = some m.cls := findClass_of_methodNamed Bd.named
  have hnm := (name_of_methodNamed Bd.named Bd.method).1
  have X0 : Stand p l e ({ frames := 3, cells := 1, slots := 17, locals := 68 } : Room) s m #[(.double t0)] below meth c s₁ [] 0 0 := Stand.of_body Bd
  have e0 : s₁.heap = h0 := by rw [← hh, Bd.state]; rfl
  have N0 := Fr.nil n0
  have pre0 : ∀ t, Steps p.tables e below (s₁.setTop (mkF m 0 #[.val (.double t0), .second] [])) t → Steps p.tables e below (s₁.setTop (entryFrame m #[(.double t0)] 2)) t := fun t k => castTop (ef_rmF m t0) k
  obtain ⟨T1, h1, X1, e1, E1, A1, D1, -, st1⟩ := newO X0 hx hZ hown (hw _ (List.mem_of_getElem? (i := 5) rfl)) (hw _ (List.mem_of_getElem? (i := 6) rfl)) (hw _ (List.mem_of_getElem? (i := 3) rfl)) e0 (g := (mkF m 0 #[.val (.double t0), .second] [])) rfl (hb hby d2_0) (by decide) (by decide)
  obtain ⟨b1, g1⟩ : ∃ z, z = h0.size := ⟨_, rfl⟩
  rw [← g1] at A1 D1 st1
  have F1_1 : Fld Z h1 b1 "com/example/tolc/tolc/ControllerSettings" "targetP90Millis" "D" (.double 0) := D1 (Or.inr (hw _ (List.mem_of_getElem? (i := 28) rfl))) (ty := .double) (by decide)
  have F1_2 : Fld Z h1 b1 "com/example/tolc/tolc/ControllerSettings" "samplesPerRun" "I" (.int (0 : Int32)) := D1 (Or.inr (hw _ (List.mem_of_getElem? (i := 30) rfl))) (ty := .int) (by decide)
  have F1_3 : Fld Z h1 b1 "com/example/tolc/tolc/ControllerSettings" "timeoutMillis" "J" (.long (0 : Int64)) := D1 (Or.inr (hw _ (List.mem_of_getElem? (i := 32) rfl))) (ty := .long) (by decide)
  have F1_4 : Fld Z h1 b1 "com/example/tolc/tolc/ControllerSettings" "earlyRunSamples" "I" (.int (0 : Int32)) := D1 (Or.inr (hw _ (List.mem_of_getElem? (i := 34) rfl))) (ty := .int) (by decide)
  have F1_5 : Fld Z h1 b1 "com/example/tolc/tolc/ControllerSettings" "smoothing" "D" (.double 0) := D1 (Or.inr (hw _ (List.mem_of_getElem? (i := 36) rfl))) (ty := .double) (by decide)
  have F1_6 : Fld Z h1 b1 "com/example/tolc/tolc/ControllerSettings" "completionSmoothing" "D" (.double 0) := D1 (Or.inr (hw _ (List.mem_of_getElem? (i := 38) rfl))) (ty := .double) (by decide)
  have F1_7 : Fld Z h1 b1 "com/example/tolc/tolc/ControllerSettings" "cutAboveError" "D" (.double 0) := D1 (Or.inr (hw _ (List.mem_of_getElem? (i := 40) rfl))) (ty := .double) (by decide)
  have F1_8 : Fld Z h1 b1 "com/example/tolc/tolc/ControllerSettings" "cutDivisor" "D" (.double 0) := D1 (Or.inr (hw _ (List.mem_of_getElem? (i := 42) rfl))) (ty := .double) (by decide)
  have F1_9 : Fld Z h1 b1 "com/example/tolc/tolc/ControllerSettings" "raiseBelowError" "D" (.double 0) := D1 (Or.inr (hw _ (List.mem_of_getElem? (i := 44) rfl))) (ty := .double) (by decide)
  have F1_10 : Fld Z h1 b1 "com/example/tolc/tolc/ControllerSettings" "raiseFromError" "D" (.double 0) := D1 (Or.inr (hw _ (List.mem_of_getElem? (i := 46) rfl))) (ty := .double) (by decide)
  have F1_11 : Fld Z h1 b1 "com/example/tolc/tolc/ControllerSettings" "raiseStep" "D" (.double 0) := D1 (Or.inr (hw _ (List.mem_of_getElem? (i := 48) rfl))) (ty := .double) (by decide)
  have F1_12 : Fld Z h1 b1 "com/example/tolc/tolc/ControllerSettings" "minRatePerSecond" "D" (.double 0) := D1 (Or.inr (hw _ (List.mem_of_getElem? (i := 50) rfl))) (ty := .double) (by decide)
  have F1_13 : Fld Z h1 b1 "com/example/tolc/tolc/ControllerSettings" "maxRatePerSecond" "D" (.double 0) := D1 (Or.inr (hw _ (List.mem_of_getElem? (i := 52) rfl))) (ty := .double) (by decide)
  have F1_14 : Fld Z h1 b1 "com/example/tolc/tolc/ControllerSettings" "initialRatePerSecond" "D" (.double 0) := D1 (Or.inr (hw _ (List.mem_of_getElem? (i := 54) rfl))) (ty := .double) (by decide)
  have F1_15 : Fld Z h1 b1 "com/example/tolc/tolc/ControllerSettings" "demandReach" "D" (.double 0) := D1 (Or.inr (hw _ (List.mem_of_getElem? (i := 56) rfl))) (ty := .double) (by decide)
  have F1_16 : Fld Z h1 b1 "com/example/tolc/tolc/ControllerSettings" "lowerCutDivisor" "D" (.double 0) := D1 (Or.inr (hw _ (List.mem_of_getElem? (i := 58) rfl))) (ty := .double) (by decide)
  have F1_17 : Fld Z h1 b1 "com/example/tolc/tolc/ControllerSettings" "ownCutRuns" "I" (.int (0 : Int32)) := D1 (Or.inr (hw _ (List.mem_of_getElem? (i := 60) rfl))) (ty := .int) (by decide)
  obtain ⟨_, _, ⟨T2, L2, k2, n2⟩, -, X2, ⟨Lc2, hQ2, l2, y2, z2⟩, st2⟩ := X1.specialBack hx (y := (⟨"com/example/tolc/tolc/ControllerSettings", "<init>", "(DIJIDDDDDDDDDDDDI)V"⟩ : MethodName)) rfl hown (mvT hZ (hw _ (List.mem_of_getElem? (i := 16) rfl))) (mvT hZ (hw _ (List.mem_of_getElem? (i := 17) rfl))) (mvT hZ (hw _ (List.mem_of_getElem? (i := 18) rfl))) (by decide) (backOf (W := 1) (rmI l Z a0 hw [] b1 t0 (100 : Int32) (1000 : Int64) (20 : Int32) 4602678819172646912 4605380978949069210 0 4608083138725491507 13822447976325526323 13822447976325526323 4621819117588971520 4607182418800017408 4696837146684686336 4636737291354636288 4611686018427387904 4621819117588971520 (20 : Int32) (.double 0) (.int (0 : Int32)) (.long (0 : Int64)) (.int (0 : Int32)) (.double 0) (.double 0) (.double 0) (.double 0) (.double 0) (.double 0) (.double 0) (.double 0) (.double 0) (.double 0) (.double 0) (.double 0) (.int (0 : Int32)) h1 n0 (Nat.le_trans Z0 E1.1) F1_1 A1 (Nat.le_trans Z0 (Nat.le_of_eq g1.symm)) F1_2 F1_3 F1_4 F1_5 F1_6 F1_7 F1_8 F1_9 F1_10 F1_11 F1_12 F1_13 F1_14 F1_15 F1_16 F1_17) hZ (hw _ (List.mem_of_getElem? (i := 18) rfl)) (hw _ (List.mem_of_getElem? (i := 3) rfl)) (by decide) (by decide)) (g := (mkF m 46 #[.val (.double t0), .second] [(.int (20 : Int32)), (.double 4621819117588971520), (.double 4611686018427387904), (.double 4636737291354636288), (.double 4696837146684686336), (.double 4607182418800017408), (.double 4621819117588971520), (.double 13822447976325526323), (.double 13822447976325526323), (.double 4608083138725491507), (.double 0), (.double 4605380978949069210), (.double 4602678819172646912), (.int (20 : Int32)), (.long (1000 : Int64)), (.int (100 : Int32)), (.double t0), (.ref b1), (.ref b1)])) rfl (by rw [hml]; rfl) (Steps.refl _) (a := b1) (argsL := [(.double t0), (.int (100 : Int32)), (.long (1000 : Int64)), (.int (20 : Int32)), (.double 4602678819172646912), (.double 4605380978949069210), (.double 0), (.double 4608083138725491507), (.double 13822447976325526323), (.double 13822447976325526323), (.double 4621819117588971520), (.double 4607182418800017408), (.double 4696837146684686336), (.double 4636737291354636288), (.double 4611686018427387904), (.double 4621819117588971520), (.int (20 : Int32))]) (rest := [(.ref b1)]) (lenOf pd_1 rfl) rfl (by show 2 * 0 + _ ≤ _; exact Nat.le_of_eq rfl) (hb hby d2_46) (fun _ _ => ⟨rfl, e1, (by decide : 1 + 0 ≤ _), (by decide : 17 + 0 ≤ _)⟩)
  dsimp only [Pt.U, Pt.locs, Pt.cells, Pt.slots] at X2 l2 y2 z2 st2 hQ2
  subst l2 y2 z2
  obtain ⟨rfl, Nq2, Kp2, Fq2_0, Fq2_1, Fq2_2, Fq2_3, Fq2_4, Fq2_5, Fq2_6, Fq2_7, Fq2_8, Fq2_9, Fq2_10, Fq2_11, Fq2_12, Fq2_13, Fq2_14, Fq2_15, Fq2_16, Fq2_17⟩ := hQ2
  have N2 := Fr.app N0 Nq2
  obtain ⟨fs, hr, hrun, hended, hW, hsame⟩ := X2.leave (v := some (.ref b1)) (fun h => by rw [Bd.returns] at h; cases h)
  refine ⟨_, _, pre0 _ ?_, hrun, hended, _, _, rfl, ?_, ⟨_, rfl⟩, hW, hsame.mono (by decide) (by decide)⟩
  · show Steps p.tables e below (s₁.setTop (mkF m 0 #[.val (.double t0), .second] [])) _
    refine st1 _ ?_
    show Steps p.tables e below (T1.setTop (mkF m 3 #[.val (.double t0), .second] [(.ref b1)])) _
    refine XS.dup X1.here hx rfl (hb hby d2_3) rfl rfl ?_
    show Steps p.tables e below (T1.setTop (mkF m 4 #[.val (.double t0), .second] [(.ref b1), (.ref b1)])) _
    refine XS.dloadN X1.here hx rfl (hb hby d2_4) rfl ?_
    show Steps p.tables e below (T1.setTop (mkF m 5 #[.val (.double t0), .second] [(.double t0), (.ref b1), (.ref b1)])) _
    refine XS.bipush X1.here hx rfl (hb hby d2_5) ?_
    show Steps p.tables e below (T1.setTop (mkF m 7 #[.val (.double t0), .second] [(.int (100 : Int32)), (.double t0), (.ref b1), (.ref b1)])) _
    refine X1.ldc2Long hx hown (mvT hZ (hw _ (List.mem_of_getElem? (i := 7) rfl))) (g := (mkF m 7 #[.val (.double t0), .second] [(.int (100 : Int32)), (.double t0), (.ref b1), (.ref b1)])) rfl (hb hby d2_7) _ ?_
    show Steps p.tables e below (T1.setTop (mkF m 10 #[.val (.double t0), .second] [(.long (1000 : Int64)), (.int (100 : Int32)), (.double t0), (.ref b1), (.ref b1)])) _
    refine XS.bipush X1.here hx rfl (hb hby d2_10) ?_
    show Steps p.tables e below (T1.setTop (mkF m 12 #[.val (.double t0), .second] [(.int (20 : Int32)), (.long (1000 : Int64)), (.int (100 : Int32)), (.double t0), (.ref b1), (.ref b1)])) _
    refine X1.ldc2DoubleC hx hown (mvT hZ (hw _ (List.mem_of_getElem? (i := 8) rfl))) (g := (mkF m 12 #[.val (.double t0), .second] [(.int (20 : Int32)), (.long (1000 : Int64)), (.int (100 : Int32)), (.double t0), (.ref b1), (.ref b1)])) rfl (hb hby d2_12) _ ?_
    show Steps p.tables e below (T1.setTop (mkF m 15 #[.val (.double t0), .second] [(.double 4602678819172646912), (.int (20 : Int32)), (.long (1000 : Int64)), (.int (100 : Int32)), (.double t0), (.ref b1), (.ref b1)])) _
    refine X1.ldc2DoubleC hx hown (mvT hZ (hw _ (List.mem_of_getElem? (i := 9) rfl))) (g := (mkF m 15 #[.val (.double t0), .second] [(.double 4602678819172646912), (.int (20 : Int32)), (.long (1000 : Int64)), (.int (100 : Int32)), (.double t0), (.ref b1), (.ref b1)])) rfl (hb hby d2_15) _ ?_
    show Steps p.tables e below (T1.setTop (mkF m 18 #[.val (.double t0), .second] [(.double 4605380978949069210), (.double 4602678819172646912), (.int (20 : Int32)), (.long (1000 : Int64)), (.int (100 : Int32)), (.double t0), (.ref b1), (.ref b1)])) _
    refine XS.dconst0 X1.here hx rfl (hb hby d2_18) (v := 0) rfl ?_
    show Steps p.tables e below (T1.setTop (mkF m 19 #[.val (.double t0), .second] [(.double 0), (.double 4605380978949069210), (.double 4602678819172646912), (.int (20 : Int32)), (.long (1000 : Int64)), (.int (100 : Int32)), (.double t0), (.ref b1), (.ref b1)])) _
    refine X1.ldc2DoubleC hx hown (mvT hZ (hw _ (List.mem_of_getElem? (i := 10) rfl))) (g := (mkF m 19 #[.val (.double t0), .second] [(.double 0), (.double 4605380978949069210), (.double 4602678819172646912), (.int (20 : Int32)), (.long (1000 : Int64)), (.int (100 : Int32)), (.double t0), (.ref b1), (.ref b1)])) rfl (hb hby d2_19) _ ?_
    show Steps p.tables e below (T1.setTop (mkF m 22 #[.val (.double t0), .second] [(.double 4608083138725491507), (.double 0), (.double 4605380978949069210), (.double 4602678819172646912), (.int (20 : Int32)), (.long (1000 : Int64)), (.int (100 : Int32)), (.double t0), (.ref b1), (.ref b1)])) _
    refine X1.ldc2DoubleC hx hown (mvT hZ (hw _ (List.mem_of_getElem? (i := 11) rfl))) (g := (mkF m 22 #[.val (.double t0), .second] [(.double 4608083138725491507), (.double 0), (.double 4605380978949069210), (.double 4602678819172646912), (.int (20 : Int32)), (.long (1000 : Int64)), (.int (100 : Int32)), (.double t0), (.ref b1), (.ref b1)])) rfl (hb hby d2_22) _ ?_
    show Steps p.tables e below (T1.setTop (mkF m 25 #[.val (.double t0), .second] [(.double 13822447976325526323), (.double 4608083138725491507), (.double 0), (.double 4605380978949069210), (.double 4602678819172646912), (.int (20 : Int32)), (.long (1000 : Int64)), (.int (100 : Int32)), (.double t0), (.ref b1), (.ref b1)])) _
    refine X1.ldc2DoubleC hx hown (mvT hZ (hw _ (List.mem_of_getElem? (i := 11) rfl))) (g := (mkF m 25 #[.val (.double t0), .second] [(.double 13822447976325526323), (.double 4608083138725491507), (.double 0), (.double 4605380978949069210), (.double 4602678819172646912), (.int (20 : Int32)), (.long (1000 : Int64)), (.int (100 : Int32)), (.double t0), (.ref b1), (.ref b1)])) rfl (hb hby d2_25) _ ?_
    show Steps p.tables e below (T1.setTop (mkF m 28 #[.val (.double t0), .second] [(.double 13822447976325526323), (.double 13822447976325526323), (.double 4608083138725491507), (.double 0), (.double 4605380978949069210), (.double 4602678819172646912), (.int (20 : Int32)), (.long (1000 : Int64)), (.int (100 : Int32)), (.double t0), (.ref b1), (.ref b1)])) _
    refine X1.ldc2DoubleC hx hown (mvT hZ (hw _ (List.mem_of_getElem? (i := 12) rfl))) (g := (mkF m 28 #[.val (.double t0), .second] [(.double 13822447976325526323), (.double 13822447976325526323), (.double 4608083138725491507), (.double 0), (.double 4605380978949069210), (.double 4602678819172646912), (.int (20 : Int32)), (.long (1000 : Int64)), (.int (100 : Int32)), (.double t0), (.ref b1), (.ref b1)])) rfl (hb hby d2_28) _ ?_
    show Steps p.tables e below (T1.setTop (mkF m 31 #[.val (.double t0), .second] [(.double 4621819117588971520), (.double 13822447976325526323), (.double 13822447976325526323), (.double 4608083138725491507), (.double 0), (.double 4605380978949069210), (.double 4602678819172646912), (.int (20 : Int32)), (.long (1000 : Int64)), (.int (100 : Int32)), (.double t0), (.ref b1), (.ref b1)])) _
    refine XS.dconst1 X1.here hx rfl (hb hby d2_31) (v := 4607182418800017408) rfl ?_
    show Steps p.tables e below (T1.setTop (mkF m 32 #[.val (.double t0), .second] [(.double 4607182418800017408), (.double 4621819117588971520), (.double 13822447976325526323), (.double 13822447976325526323), (.double 4608083138725491507), (.double 0), (.double 4605380978949069210), (.double 4602678819172646912), (.int (20 : Int32)), (.long (1000 : Int64)), (.int (100 : Int32)), (.double t0), (.ref b1), (.ref b1)])) _
    refine X1.ldc2DoubleC hx hown (mvT hZ (hw _ (List.mem_of_getElem? (i := 13) rfl))) (g := (mkF m 32 #[.val (.double t0), .second] [(.double 4607182418800017408), (.double 4621819117588971520), (.double 13822447976325526323), (.double 13822447976325526323), (.double 4608083138725491507), (.double 0), (.double 4605380978949069210), (.double 4602678819172646912), (.int (20 : Int32)), (.long (1000 : Int64)), (.int (100 : Int32)), (.double t0), (.ref b1), (.ref b1)])) rfl (hb hby d2_32) _ ?_
    show Steps p.tables e below (T1.setTop (mkF m 35 #[.val (.double t0), .second] [(.double 4696837146684686336), (.double 4607182418800017408), (.double 4621819117588971520), (.double 13822447976325526323), (.double 13822447976325526323), (.double 4608083138725491507), (.double 0), (.double 4605380978949069210), (.double 4602678819172646912), (.int (20 : Int32)), (.long (1000 : Int64)), (.int (100 : Int32)), (.double t0), (.ref b1), (.ref b1)])) _
    refine X1.ldc2DoubleC hx hown (mvT hZ (hw _ (List.mem_of_getElem? (i := 14) rfl))) (g := (mkF m 35 #[.val (.double t0), .second] [(.double 4696837146684686336), (.double 4607182418800017408), (.double 4621819117588971520), (.double 13822447976325526323), (.double 13822447976325526323), (.double 4608083138725491507), (.double 0), (.double 4605380978949069210), (.double 4602678819172646912), (.int (20 : Int32)), (.long (1000 : Int64)), (.int (100 : Int32)), (.double t0), (.ref b1), (.ref b1)])) rfl (hb hby d2_35) _ ?_
    show Steps p.tables e below (T1.setTop (mkF m 38 #[.val (.double t0), .second] [(.double 4636737291354636288), (.double 4696837146684686336), (.double 4607182418800017408), (.double 4621819117588971520), (.double 13822447976325526323), (.double 13822447976325526323), (.double 4608083138725491507), (.double 0), (.double 4605380978949069210), (.double 4602678819172646912), (.int (20 : Int32)), (.long (1000 : Int64)), (.int (100 : Int32)), (.double t0), (.ref b1), (.ref b1)])) _
    refine X1.ldc2DoubleC hx hown (mvT hZ (hw _ (List.mem_of_getElem? (i := 15) rfl))) (g := (mkF m 38 #[.val (.double t0), .second] [(.double 4636737291354636288), (.double 4696837146684686336), (.double 4607182418800017408), (.double 4621819117588971520), (.double 13822447976325526323), (.double 13822447976325526323), (.double 4608083138725491507), (.double 0), (.double 4605380978949069210), (.double 4602678819172646912), (.int (20 : Int32)), (.long (1000 : Int64)), (.int (100 : Int32)), (.double t0), (.ref b1), (.ref b1)])) rfl (hb hby d2_38) _ ?_
    show Steps p.tables e below (T1.setTop (mkF m 41 #[.val (.double t0), .second] [(.double 4611686018427387904), (.double 4636737291354636288), (.double 4696837146684686336), (.double 4607182418800017408), (.double 4621819117588971520), (.double 13822447976325526323), (.double 13822447976325526323), (.double 4608083138725491507), (.double 0), (.double 4605380978949069210), (.double 4602678819172646912), (.int (20 : Int32)), (.long (1000 : Int64)), (.int (100 : Int32)), (.double t0), (.ref b1), (.ref b1)])) _
    refine X1.ldc2DoubleC hx hown (mvT hZ (hw _ (List.mem_of_getElem? (i := 12) rfl))) (g := (mkF m 41 #[.val (.double t0), .second] [(.double 4611686018427387904), (.double 4636737291354636288), (.double 4696837146684686336), (.double 4607182418800017408), (.double 4621819117588971520), (.double 13822447976325526323), (.double 13822447976325526323), (.double 4608083138725491507), (.double 0), (.double 4605380978949069210), (.double 4602678819172646912), (.int (20 : Int32)), (.long (1000 : Int64)), (.int (100 : Int32)), (.double t0), (.ref b1), (.ref b1)])) rfl (hb hby d2_41) _ ?_
    show Steps p.tables e below (T1.setTop (mkF m 44 #[.val (.double t0), .second] [(.double 4621819117588971520), (.double 4611686018427387904), (.double 4636737291354636288), (.double 4696837146684686336), (.double 4607182418800017408), (.double 4621819117588971520), (.double 13822447976325526323), (.double 13822447976325526323), (.double 4608083138725491507), (.double 0), (.double 4605380978949069210), (.double 4602678819172646912), (.int (20 : Int32)), (.long (1000 : Int64)), (.int (100 : Int32)), (.double t0), (.ref b1), (.ref b1)])) _
    refine XS.bipush X1.here hx rfl (hb hby d2_44) ?_
    show Steps p.tables e below (T1.setTop (mkF m 46 #[.val (.double t0), .second] [(.int (20 : Int32)), (.double 4621819117588971520), (.double 4611686018427387904), (.double 4636737291354636288), (.double 4696837146684686336), (.double 4607182418800017408), (.double 4621819117588971520), (.double 13822447976325526323), (.double 13822447976325526323), (.double 4608083138725491507), (.double 0), (.double 4605380978949069210), (.double 4602678819172646912), (.int (20 : Int32)), (.long (1000 : Int64)), (.int (100 : Int32)), (.double t0), (.ref b1), (.ref b1)])) _
    refine st2.trans ?_
    show Steps p.tables e below (T2.setTop (mkF m 49 #[.val (.double t0), .second] [(.ref b1)])) _
    exact retOut X2 hx Bd.returns rfl (Or.inr (Or.inr (Or.inr (Or.inr ⟨rfl, rfl, rfl⟩)))) (hb hby d2_49) hr
  · show Q_rmF Z t0 h0 n0 _ T2.heap _
    exact ⟨b1, rfl, N2, (Nat.le_trans (Nat.le_refl h0.size) (Nat.le_of_eq g1.symm)), (((Keep.refl h0 []).ext E1).trans Kp2 (allS (Or.inr (Nat.le_trans (Nat.le_refl h0.size) (Nat.le_of_eq g1.symm))) all0)), Fq2_0, Fq2_1, Fq2_2, Fq2_3, Fq2_4, Fq2_5, Fq2_6, Fq2_7, Fq2_8, Fq2_9, Fq2_10, Fq2_11, Fq2_12, Fq2_13, Fq2_14, Fq2_15, Fq2_16, Fq2_17⟩
theorem d3_0 : decode prog_8_method_29_code 0 = .ok (.aload_n 0, 1) := by decide +kernel
theorem d3_1 : decode prog_8_method_29_code 1 = .ok (.getfield 7, 3) := by decide +kernel
theorem d3_4 : decode prog_8_method_29_code 4 = .ok (.dreturn, 1) := by decide +kernel
def Q_rm_targetP90Millis (Z : State) (ob : Addr) (w_targetP90Millis_ob : UInt64) (h0 : Heap) (n0 : Nat) (v : Option Value) (h : Heap) (L : List Loc) : Prop := v = some (.double w_targetP90Millis_ob) ∧ Fr n0 L ∧ h = h0
theorem ef_rm_targetP90Millis (m : MethodId) (ob : Addr) : entryFrame m #[(.ref ob)] 1 = mkF m 0 #[.val (.ref ob)] [] := by first | (simp [entryFrame, mkF, argsToLocals, Value.category]; done) | rfl
set_option maxRecDepth 65536 in
set_option maxHeartbeats 40000000 in
theorem rm_targetP90Millis (l : Launch) (Z : State) (a0 : Array Value) (hw : ∀ d ∈ tables_1, d.before a0 Z = true) (ws : List Jvm.Cond) (ob : Addr) (w_targetP90Millis_ob : UInt64) (h0 : Heap) (n0 : Nat) (Z0 : n0 ≤ h0.size) (F_targetP90Millis_ob : Fld Z h0 ob "com/example/tolc/tolc/ControllerSettings" "targetP90Millis" "D" (.double w_targetP90Millis_ob)) :
    MetFree l (⟨"com/example/tolc/tolc/ControllerSettings", "targetP90Millis", "()D"⟩ : MethodName) (head1 (Jvm.Cond.code (⟨"com/example/tolc/tolc/ControllerSettings", "targetP90Millis", "()D"⟩ : MethodName) prog_8_method_29_code 1 (some .double) :: ws) ({ frames := 0, cells := 0, slots := 0, locals := 0 } : Room)) (fun a U => a = #[(.ref ob)] ∧ Z.Warmed39 U.vm ∧ U.heap = h0) (fun _ _ _ _ _ => True) (fun _ U o U' => ∃ v L, o = .returned v ∧ Q_rm_targetP90Millis Z ob w_targetP90Millis_ob h0 n0 v U'.heap L ∧ FrameEnd U o U' L ({ frames := 0, cells := 0, slots := 0, locals := 0 } : Room).cells ({ frames := 0, cells := 0, slots := 0, locals := 0 } : Room).slots) := by
  refine MetFree.of_bodySF (plainFor_of_name pn_1) hisR ?_
  intro p e s m args below meth c s₁ Bd hml0 hP hK
  obtain ⟨rfl, hZ, hh⟩ := hP
  have hx := Bd.exec
  have hby := Bd.bytes
  have hml : c.maxLocals = 1 := hml0
  have hown : s.vm.findClass "com/example/tolc/tolc/ControllerSettings" = some m.cls := findClass_of_methodNamed Bd.named
  have hnm := (name_of_methodNamed Bd.named Bd.method).1
  have X0 : Stand p l e ({ frames := 0, cells := 0, slots := 0, locals := 0 } : Room) s m #[(.ref ob)] below meth c s₁ [] 0 0 := Stand.of_body Bd
  have e0 : s₁.heap = h0 := by rw [← hh, Bd.state]; rfl
  have N0 := Fr.nil n0
  have pre0 : ∀ t, Steps p.tables e below (s₁.setTop (mkF m 0 #[.val (.ref ob)] [])) t → Steps p.tables e below (s₁.setTop (entryFrame m #[(.ref ob)] 1)) t := fun t k => castTop (ef_rm_targetP90Millis m ob) k
  obtain ⟨T1, X1, e1, st1⟩ := getF X0 hx hZ hown (host := "") (Or.inl (hw _ (List.mem_of_getElem? (i := 27) rfl))) Via.refl e0 F_targetP90Millis_ob (g := (mkF m 1 #[.val (.ref ob)] [(.ref ob)])) rfl rfl (hb hby d3_1)
  obtain ⟨fs, hr, hrun, hended, hW, hsame⟩ := X1.leave (v := some (.double w_targetP90Millis_ob)) (fun h => by rw [Bd.returns] at h; cases h)
  refine ⟨_, _, pre0 _ ?_, hrun, hended, _, _, rfl, ?_, ⟨_, rfl⟩, hW, hsame.mono (by decide) (by decide)⟩
  · show Steps p.tables e below (s₁.setTop (mkF m 0 #[.val (.ref ob)] [])) _
    refine XS.aloadN X0.here hx rfl (hb hby d3_0) rfl rfl ?_
    show Steps p.tables e below (s₁.setTop (mkF m 1 #[.val (.ref ob)] [(.ref ob)])) _
    refine st1 _ ?_
    show Steps p.tables e below (T1.setTop (mkF m 4 #[.val (.ref ob)] [(.double w_targetP90Millis_ob)])) _
    exact retOut X1 hx Bd.returns rfl (Or.inr (Or.inr (Or.inl ⟨rfl, rfl, _, rfl⟩))) (hb hby d3_4) hr
  · show Q_rm_targetP90Millis Z ob w_targetP90Millis_ob h0 n0 _ T1.heap _
    rw [e1]
    exact ⟨rfl, N0, rfl⟩
theorem d4_0 : decode prog_8_method_30_code 0 = .ok (.aload_n 0, 1) := by decide +kernel
theorem d4_1 : decode prog_8_method_30_code 1 = .ok (.getfield 13, 3) := by decide +kernel
theorem d4_4 : decode prog_8_method_30_code 4 = .ok (.ireturn, 1) := by decide +kernel
def Q_rm_samplesPerRun (Z : State) (ob : Addr) (w_samplesPerRun_ob : Int32) (h0 : Heap) (n0 : Nat) (v : Option Value) (h : Heap) (L : List Loc) : Prop := v = some (.int w_samplesPerRun_ob) ∧ Fr n0 L ∧ h = h0
theorem ef_rm_samplesPerRun (m : MethodId) (ob : Addr) : entryFrame m #[(.ref ob)] 1 = mkF m 0 #[.val (.ref ob)] [] := by first | (simp [entryFrame, mkF, argsToLocals, Value.category]; done) | rfl
set_option maxRecDepth 65536 in
set_option maxHeartbeats 40000000 in
theorem rm_samplesPerRun (l : Launch) (Z : State) (a0 : Array Value) (hw : ∀ d ∈ tables_1, d.before a0 Z = true) (ws : List Jvm.Cond) (ob : Addr) (w_samplesPerRun_ob : Int32) (h0 : Heap) (n0 : Nat) (Z0 : n0 ≤ h0.size) (F_samplesPerRun_ob : Fld Z h0 ob "com/example/tolc/tolc/ControllerSettings" "samplesPerRun" "I" (.int w_samplesPerRun_ob)) :
    MetFree l (⟨"com/example/tolc/tolc/ControllerSettings", "samplesPerRun", "()I"⟩ : MethodName) (head1 (Jvm.Cond.code (⟨"com/example/tolc/tolc/ControllerSettings", "samplesPerRun", "()I"⟩ : MethodName) prog_8_method_30_code 1 (some .int) :: ws) ({ frames := 0, cells := 0, slots := 0, locals := 0 } : Room)) (fun a U => a = #[(.ref ob)] ∧ Z.Warmed39 U.vm ∧ U.heap = h0) (fun _ _ _ _ _ => True) (fun _ U o U' => ∃ v L, o = .returned v ∧ Q_rm_samplesPerRun Z ob w_samplesPerRun_ob h0 n0 v U'.heap L ∧ FrameEnd U o U' L ({ frames := 0, cells := 0, slots := 0, locals := 0 } : Room).cells ({ frames := 0, cells := 0, slots := 0, locals := 0 } : Room).slots) := by
  refine MetFree.of_bodySF (plainFor_of_name pn_1) hisR ?_
  intro p e s m args below meth c s₁ Bd hml0 hP hK
  obtain ⟨rfl, hZ, hh⟩ := hP
  have hx := Bd.exec
  have hby := Bd.bytes
  have hml : c.maxLocals = 1 := hml0
  have hown : s.vm.findClass "com/example/tolc/tolc/ControllerSettings" = some m.cls := findClass_of_methodNamed Bd.named
  have hnm := (name_of_methodNamed Bd.named Bd.method).1
  have X0 : Stand p l e ({ frames := 0, cells := 0, slots := 0, locals := 0 } : Room) s m #[(.ref ob)] below meth c s₁ [] 0 0 := Stand.of_body Bd
  have e0 : s₁.heap = h0 := by rw [← hh, Bd.state]; rfl
  have N0 := Fr.nil n0
  have pre0 : ∀ t, Steps p.tables e below (s₁.setTop (mkF m 0 #[.val (.ref ob)] [])) t → Steps p.tables e below (s₁.setTop (entryFrame m #[(.ref ob)] 1)) t := fun t k => castTop (ef_rm_samplesPerRun m ob) k
  obtain ⟨T1, X1, e1, st1⟩ := getF X0 hx hZ hown (host := "") (Or.inl (hw _ (List.mem_of_getElem? (i := 29) rfl))) Via.refl e0 F_samplesPerRun_ob (g := (mkF m 1 #[.val (.ref ob)] [(.ref ob)])) rfl rfl (hb hby d4_1)
  obtain ⟨fs, hr, hrun, hended, hW, hsame⟩ := X1.leave (v := some (.int w_samplesPerRun_ob)) (fun h => by rw [Bd.returns] at h; cases h)
  refine ⟨_, _, pre0 _ ?_, hrun, hended, _, _, rfl, ?_, ⟨_, rfl⟩, hW, hsame.mono (by decide) (by decide)⟩
  · show Steps p.tables e below (s₁.setTop (mkF m 0 #[.val (.ref ob)] [])) _
    refine XS.aloadN X0.here hx rfl (hb hby d4_0) rfl rfl ?_
    show Steps p.tables e below (s₁.setTop (mkF m 1 #[.val (.ref ob)] [(.ref ob)])) _
    refine st1 _ ?_
    show Steps p.tables e below (T1.setTop (mkF m 4 #[.val (.ref ob)] [(.int w_samplesPerRun_ob)])) _
    exact retI X1 hx Bd.returns (hb hby d4_4) hr
  · show Q_rm_samplesPerRun Z ob w_samplesPerRun_ob h0 n0 _ T1.heap _
    rw [e1]
    exact ⟨rfl, N0, rfl⟩
theorem d5_0 : decode prog_8_method_31_code 0 = .ok (.aload_n 0, 1) := by decide +kernel
theorem d5_1 : decode prog_8_method_31_code 1 = .ok (.getfield 17, 3) := by decide +kernel
theorem d5_4 : decode prog_8_method_31_code 4 = .ok (.lreturn, 1) := by decide +kernel
def Q_rm_timeoutMillis (Z : State) (ob : Addr) (w_timeoutMillis_ob : Int64) (h0 : Heap) (n0 : Nat) (v : Option Value) (h : Heap) (L : List Loc) : Prop := v = some (.long w_timeoutMillis_ob) ∧ Fr n0 L ∧ h = h0
theorem ef_rm_timeoutMillis (m : MethodId) (ob : Addr) : entryFrame m #[(.ref ob)] 1 = mkF m 0 #[.val (.ref ob)] [] := by first | (simp [entryFrame, mkF, argsToLocals, Value.category]; done) | rfl
set_option maxRecDepth 65536 in
set_option maxHeartbeats 40000000 in
theorem rm_timeoutMillis (l : Launch) (Z : State) (a0 : Array Value) (hw : ∀ d ∈ tables_1, d.before a0 Z = true) (ws : List Jvm.Cond) (ob : Addr) (w_timeoutMillis_ob : Int64) (h0 : Heap) (n0 : Nat) (Z0 : n0 ≤ h0.size) (F_timeoutMillis_ob : Fld Z h0 ob "com/example/tolc/tolc/ControllerSettings" "timeoutMillis" "J" (.long w_timeoutMillis_ob)) :
    MetFree l (⟨"com/example/tolc/tolc/ControllerSettings", "timeoutMillis", "()J"⟩ : MethodName) (head1 (Jvm.Cond.code (⟨"com/example/tolc/tolc/ControllerSettings", "timeoutMillis", "()J"⟩ : MethodName) prog_8_method_31_code 1 (some .long) :: ws) ({ frames := 0, cells := 0, slots := 0, locals := 0 } : Room)) (fun a U => a = #[(.ref ob)] ∧ Z.Warmed39 U.vm ∧ U.heap = h0) (fun _ _ _ _ _ => True) (fun _ U o U' => ∃ v L, o = .returned v ∧ Q_rm_timeoutMillis Z ob w_timeoutMillis_ob h0 n0 v U'.heap L ∧ FrameEnd U o U' L ({ frames := 0, cells := 0, slots := 0, locals := 0 } : Room).cells ({ frames := 0, cells := 0, slots := 0, locals := 0 } : Room).slots) := by
  refine MetFree.of_bodySF (plainFor_of_name pn_1) hisR ?_
  intro p e s m args below meth c s₁ Bd hml0 hP hK
  obtain ⟨rfl, hZ, hh⟩ := hP
  have hx := Bd.exec
  have hby := Bd.bytes
  have hml : c.maxLocals = 1 := hml0
  have hown : s.vm.findClass "com/example/tolc/tolc/ControllerSettings" = some m.cls := findClass_of_methodNamed Bd.named
  have hnm := (name_of_methodNamed Bd.named Bd.method).1
  have X0 : Stand p l e ({ frames := 0, cells := 0, slots := 0, locals := 0 } : Room) s m #[(.ref ob)] below meth c s₁ [] 0 0 := Stand.of_body Bd
  have e0 : s₁.heap = h0 := by rw [← hh, Bd.state]; rfl
  have N0 := Fr.nil n0
  have pre0 : ∀ t, Steps p.tables e below (s₁.setTop (mkF m 0 #[.val (.ref ob)] [])) t → Steps p.tables e below (s₁.setTop (entryFrame m #[(.ref ob)] 1)) t := fun t k => castTop (ef_rm_timeoutMillis m ob) k
  obtain ⟨T1, X1, e1, st1⟩ := getF X0 hx hZ hown (host := "") (Or.inl (hw _ (List.mem_of_getElem? (i := 31) rfl))) Via.refl e0 F_timeoutMillis_ob (g := (mkF m 1 #[.val (.ref ob)] [(.ref ob)])) rfl rfl (hb hby d5_1)
  obtain ⟨fs, hr, hrun, hended, hW, hsame⟩ := X1.leave (v := some (.long w_timeoutMillis_ob)) (fun h => by rw [Bd.returns] at h; cases h)
  refine ⟨_, _, pre0 _ ?_, hrun, hended, _, _, rfl, ?_, ⟨_, rfl⟩, hW, hsame.mono (by decide) (by decide)⟩
  · show Steps p.tables e below (s₁.setTop (mkF m 0 #[.val (.ref ob)] [])) _
    refine XS.aloadN X0.here hx rfl (hb hby d5_0) rfl rfl ?_
    show Steps p.tables e below (s₁.setTop (mkF m 1 #[.val (.ref ob)] [(.ref ob)])) _
    refine st1 _ ?_
    show Steps p.tables e below (T1.setTop (mkF m 4 #[.val (.ref ob)] [(.long w_timeoutMillis_ob)])) _
    exact retOut X1 hx Bd.returns rfl (Or.inr (Or.inl ⟨rfl, rfl, _, rfl⟩)) (hb hby d5_4) hr
  · show Q_rm_timeoutMillis Z ob w_timeoutMillis_ob h0 n0 _ T1.heap _
    rw [e1]
    exact ⟨rfl, N0, rfl⟩
theorem d6_0 : decode prog_8_method_32_code 0 = .ok (.aload_n 0, 1) := by decide +kernel
theorem d6_1 : decode prog_8_method_32_code 1 = .ok (.getfield 21, 3) := by decide +kernel
theorem d6_4 : decode prog_8_method_32_code 4 = .ok (.ireturn, 1) := by decide +kernel
def Q_rm_earlyRunSamples (Z : State) (ob : Addr) (w_earlyRunSamples_ob : Int32) (h0 : Heap) (n0 : Nat) (v : Option Value) (h : Heap) (L : List Loc) : Prop := v = some (.int w_earlyRunSamples_ob) ∧ Fr n0 L ∧ h = h0
theorem ef_rm_earlyRunSamples (m : MethodId) (ob : Addr) : entryFrame m #[(.ref ob)] 1 = mkF m 0 #[.val (.ref ob)] [] := by first | (simp [entryFrame, mkF, argsToLocals, Value.category]; done) | rfl
set_option maxRecDepth 65536 in
set_option maxHeartbeats 40000000 in
theorem rm_earlyRunSamples (l : Launch) (Z : State) (a0 : Array Value) (hw : ∀ d ∈ tables_1, d.before a0 Z = true) (ws : List Jvm.Cond) (ob : Addr) (w_earlyRunSamples_ob : Int32) (h0 : Heap) (n0 : Nat) (Z0 : n0 ≤ h0.size) (F_earlyRunSamples_ob : Fld Z h0 ob "com/example/tolc/tolc/ControllerSettings" "earlyRunSamples" "I" (.int w_earlyRunSamples_ob)) :
    MetFree l (⟨"com/example/tolc/tolc/ControllerSettings", "earlyRunSamples", "()I"⟩ : MethodName) (head1 (Jvm.Cond.code (⟨"com/example/tolc/tolc/ControllerSettings", "earlyRunSamples", "()I"⟩ : MethodName) prog_8_method_32_code 1 (some .int) :: ws) ({ frames := 0, cells := 0, slots := 0, locals := 0 } : Room)) (fun a U => a = #[(.ref ob)] ∧ Z.Warmed39 U.vm ∧ U.heap = h0) (fun _ _ _ _ _ => True) (fun _ U o U' => ∃ v L, o = .returned v ∧ Q_rm_earlyRunSamples Z ob w_earlyRunSamples_ob h0 n0 v U'.heap L ∧ FrameEnd U o U' L ({ frames := 0, cells := 0, slots := 0, locals := 0 } : Room).cells ({ frames := 0, cells := 0, slots := 0, locals := 0 } : Room).slots) := by
  refine MetFree.of_bodySF (plainFor_of_name pn_1) hisR ?_
  intro p e s m args below meth c s₁ Bd hml0 hP hK
  obtain ⟨rfl, hZ, hh⟩ := hP
  have hx := Bd.exec
  have hby := Bd.bytes
  have hml : c.maxLocals = 1 := hml0
  have hown : s.vm.findClass "com/example/tolc/tolc/ControllerSettings" = some m.cls := findClass_of_methodNamed Bd.named
  have hnm := (name_of_methodNamed Bd.named Bd.method).1
  have X0 : Stand p l e ({ frames := 0, cells := 0, slots := 0, locals := 0 } : Room) s m #[(.ref ob)] below meth c s₁ [] 0 0 := Stand.of_body Bd
  have e0 : s₁.heap = h0 := by rw [← hh, Bd.state]; rfl
  have N0 := Fr.nil n0
  have pre0 : ∀ t, Steps p.tables e below (s₁.setTop (mkF m 0 #[.val (.ref ob)] [])) t → Steps p.tables e below (s₁.setTop (entryFrame m #[(.ref ob)] 1)) t := fun t k => castTop (ef_rm_earlyRunSamples m ob) k
  obtain ⟨T1, X1, e1, st1⟩ := getF X0 hx hZ hown (host := "") (Or.inl (hw _ (List.mem_of_getElem? (i := 33) rfl))) Via.refl e0 F_earlyRunSamples_ob (g := (mkF m 1 #[.val (.ref ob)] [(.ref ob)])) rfl rfl (hb hby d6_1)
  obtain ⟨fs, hr, hrun, hended, hW, hsame⟩ := X1.leave (v := some (.int w_earlyRunSamples_ob)) (fun h => by rw [Bd.returns] at h; cases h)
  refine ⟨_, _, pre0 _ ?_, hrun, hended, _, _, rfl, ?_, ⟨_, rfl⟩, hW, hsame.mono (by decide) (by decide)⟩
  · show Steps p.tables e below (s₁.setTop (mkF m 0 #[.val (.ref ob)] [])) _
    refine XS.aloadN X0.here hx rfl (hb hby d6_0) rfl rfl ?_
    show Steps p.tables e below (s₁.setTop (mkF m 1 #[.val (.ref ob)] [(.ref ob)])) _
    refine st1 _ ?_
    show Steps p.tables e below (T1.setTop (mkF m 4 #[.val (.ref ob)] [(.int w_earlyRunSamples_ob)])) _
    exact retI X1 hx Bd.returns (hb hby d6_4) hr
  · show Q_rm_earlyRunSamples Z ob w_earlyRunSamples_ob h0 n0 _ T1.heap _
    rw [e1]
    exact ⟨rfl, N0, rfl⟩
theorem d7_0 : decode prog_8_method_33_code 0 = .ok (.aload_n 0, 1) := by decide +kernel
theorem d7_1 : decode prog_8_method_33_code 1 = .ok (.getfield 24, 3) := by decide +kernel
theorem d7_4 : decode prog_8_method_33_code 4 = .ok (.dreturn, 1) := by decide +kernel
def Q_rm_smoothing (Z : State) (ob : Addr) (w_smoothing_ob : UInt64) (h0 : Heap) (n0 : Nat) (v : Option Value) (h : Heap) (L : List Loc) : Prop := v = some (.double w_smoothing_ob) ∧ Fr n0 L ∧ h = h0
theorem ef_rm_smoothing (m : MethodId) (ob : Addr) : entryFrame m #[(.ref ob)] 1 = mkF m 0 #[.val (.ref ob)] [] := by first | (simp [entryFrame, mkF, argsToLocals, Value.category]; done) | rfl
set_option maxRecDepth 65536 in
set_option maxHeartbeats 40000000 in
theorem rm_smoothing (l : Launch) (Z : State) (a0 : Array Value) (hw : ∀ d ∈ tables_1, d.before a0 Z = true) (ws : List Jvm.Cond) (ob : Addr) (w_smoothing_ob : UInt64) (h0 : Heap) (n0 : Nat) (Z0 : n0 ≤ h0.size) (F_smoothing_ob : Fld Z h0 ob "com/example/tolc/tolc/ControllerSettings" "smoothing" "D" (.double w_smoothing_ob)) :
    MetFree l (⟨"com/example/tolc/tolc/ControllerSettings", "smoothing", "()D"⟩ : MethodName) (head1 (Jvm.Cond.code (⟨"com/example/tolc/tolc/ControllerSettings", "smoothing", "()D"⟩ : MethodName) prog_8_method_33_code 1 (some .double) :: ws) ({ frames := 0, cells := 0, slots := 0, locals := 0 } : Room)) (fun a U => a = #[(.ref ob)] ∧ Z.Warmed39 U.vm ∧ U.heap = h0) (fun _ _ _ _ _ => True) (fun _ U o U' => ∃ v L, o = .returned v ∧ Q_rm_smoothing Z ob w_smoothing_ob h0 n0 v U'.heap L ∧ FrameEnd U o U' L ({ frames := 0, cells := 0, slots := 0, locals := 0 } : Room).cells ({ frames := 0, cells := 0, slots := 0, locals := 0 } : Room).slots) := by
  refine MetFree.of_bodySF (plainFor_of_name pn_1) hisR ?_
  intro p e s m args below meth c s₁ Bd hml0 hP hK
  obtain ⟨rfl, hZ, hh⟩ := hP
  have hx := Bd.exec
  have hby := Bd.bytes
  have hml : c.maxLocals = 1 := hml0
  have hown : s.vm.findClass "com/example/tolc/tolc/ControllerSettings" = some m.cls := findClass_of_methodNamed Bd.named
  have hnm := (name_of_methodNamed Bd.named Bd.method).1
  have X0 : Stand p l e ({ frames := 0, cells := 0, slots := 0, locals := 0 } : Room) s m #[(.ref ob)] below meth c s₁ [] 0 0 := Stand.of_body Bd
  have e0 : s₁.heap = h0 := by rw [← hh, Bd.state]; rfl
  have N0 := Fr.nil n0
  have pre0 : ∀ t, Steps p.tables e below (s₁.setTop (mkF m 0 #[.val (.ref ob)] [])) t → Steps p.tables e below (s₁.setTop (entryFrame m #[(.ref ob)] 1)) t := fun t k => castTop (ef_rm_smoothing m ob) k
  obtain ⟨T1, X1, e1, st1⟩ := getF X0 hx hZ hown (host := "") (Or.inl (hw _ (List.mem_of_getElem? (i := 35) rfl))) Via.refl e0 F_smoothing_ob (g := (mkF m 1 #[.val (.ref ob)] [(.ref ob)])) rfl rfl (hb hby d7_1)
  obtain ⟨fs, hr, hrun, hended, hW, hsame⟩ := X1.leave (v := some (.double w_smoothing_ob)) (fun h => by rw [Bd.returns] at h; cases h)
  refine ⟨_, _, pre0 _ ?_, hrun, hended, _, _, rfl, ?_, ⟨_, rfl⟩, hW, hsame.mono (by decide) (by decide)⟩
  · show Steps p.tables e below (s₁.setTop (mkF m 0 #[.val (.ref ob)] [])) _
    refine XS.aloadN X0.here hx rfl (hb hby d7_0) rfl rfl ?_
    show Steps p.tables e below (s₁.setTop (mkF m 1 #[.val (.ref ob)] [(.ref ob)])) _
    refine st1 _ ?_
    show Steps p.tables e below (T1.setTop (mkF m 4 #[.val (.ref ob)] [(.double w_smoothing_ob)])) _
    exact retOut X1 hx Bd.returns rfl (Or.inr (Or.inr (Or.inl ⟨rfl, rfl, _, rfl⟩))) (hb hby d7_4) hr
  · show Q_rm_smoothing Z ob w_smoothing_ob h0 n0 _ T1.heap _
    rw [e1]
    exact ⟨rfl, N0, rfl⟩
theorem d8_0 : decode prog_8_method_34_code 0 = .ok (.aload_n 0, 1) := by decide +kernel
theorem d8_1 : decode prog_8_method_34_code 1 = .ok (.getfield 27, 3) := by decide +kernel
theorem d8_4 : decode prog_8_method_34_code 4 = .ok (.dreturn, 1) := by decide +kernel
def Q_rm_completionSmoothing (Z : State) (ob : Addr) (w_completionSmoothing_ob : UInt64) (h0 : Heap) (n0 : Nat) (v : Option Value) (h : Heap) (L : List Loc) : Prop := v = some (.double w_completionSmoothing_ob) ∧ Fr n0 L ∧ h = h0
theorem ef_rm_completionSmoothing (m : MethodId) (ob : Addr) : entryFrame m #[(.ref ob)] 1 = mkF m 0 #[.val (.ref ob)] [] := by first | (simp [entryFrame, mkF, argsToLocals, Value.category]; done) | rfl
set_option maxRecDepth 65536 in
set_option maxHeartbeats 40000000 in
theorem rm_completionSmoothing (l : Launch) (Z : State) (a0 : Array Value) (hw : ∀ d ∈ tables_1, d.before a0 Z = true) (ws : List Jvm.Cond) (ob : Addr) (w_completionSmoothing_ob : UInt64) (h0 : Heap) (n0 : Nat) (Z0 : n0 ≤ h0.size) (F_completionSmoothing_ob : Fld Z h0 ob "com/example/tolc/tolc/ControllerSettings" "completionSmoothing" "D" (.double w_completionSmoothing_ob)) :
    MetFree l (⟨"com/example/tolc/tolc/ControllerSettings", "completionSmoothing", "()D"⟩ : MethodName) (head1 (Jvm.Cond.code (⟨"com/example/tolc/tolc/ControllerSettings", "completionSmoothing", "()D"⟩ : MethodName) prog_8_method_34_code 1 (some .double) :: ws) ({ frames := 0, cells := 0, slots := 0, locals := 0 } : Room)) (fun a U => a = #[(.ref ob)] ∧ Z.Warmed39 U.vm ∧ U.heap = h0) (fun _ _ _ _ _ => True) (fun _ U o U' => ∃ v L, o = .returned v ∧ Q_rm_completionSmoothing Z ob w_completionSmoothing_ob h0 n0 v U'.heap L ∧ FrameEnd U o U' L ({ frames := 0, cells := 0, slots := 0, locals := 0 } : Room).cells ({ frames := 0, cells := 0, slots := 0, locals := 0 } : Room).slots) := by
  refine MetFree.of_bodySF (plainFor_of_name pn_1) hisR ?_
  intro p e s m args below meth c s₁ Bd hml0 hP hK
  obtain ⟨rfl, hZ, hh⟩ := hP
  have hx := Bd.exec
  have hby := Bd.bytes
  have hml : c.maxLocals = 1 := hml0
  have hown : s.vm.findClass "com/example/tolc/tolc/ControllerSettings" = some m.cls := findClass_of_methodNamed Bd.named
  have hnm := (name_of_methodNamed Bd.named Bd.method).1
  have X0 : Stand p l e ({ frames := 0, cells := 0, slots := 0, locals := 0 } : Room) s m #[(.ref ob)] below meth c s₁ [] 0 0 := Stand.of_body Bd
  have e0 : s₁.heap = h0 := by rw [← hh, Bd.state]; rfl
  have N0 := Fr.nil n0
  have pre0 : ∀ t, Steps p.tables e below (s₁.setTop (mkF m 0 #[.val (.ref ob)] [])) t → Steps p.tables e below (s₁.setTop (entryFrame m #[(.ref ob)] 1)) t := fun t k => castTop (ef_rm_completionSmoothing m ob) k
  obtain ⟨T1, X1, e1, st1⟩ := getF X0 hx hZ hown (host := "") (Or.inl (hw _ (List.mem_of_getElem? (i := 37) rfl))) Via.refl e0 F_completionSmoothing_ob (g := (mkF m 1 #[.val (.ref ob)] [(.ref ob)])) rfl rfl (hb hby d8_1)
  obtain ⟨fs, hr, hrun, hended, hW, hsame⟩ := X1.leave (v := some (.double w_completionSmoothing_ob)) (fun h => by rw [Bd.returns] at h; cases h)
  refine ⟨_, _, pre0 _ ?_, hrun, hended, _, _, rfl, ?_, ⟨_, rfl⟩, hW, hsame.mono (by decide) (by decide)⟩
  · show Steps p.tables e below (s₁.setTop (mkF m 0 #[.val (.ref ob)] [])) _
    refine XS.aloadN X0.here hx rfl (hb hby d8_0) rfl rfl ?_
    show Steps p.tables e below (s₁.setTop (mkF m 1 #[.val (.ref ob)] [(.ref ob)])) _
    refine st1 _ ?_
    show Steps p.tables e below (T1.setTop (mkF m 4 #[.val (.ref ob)] [(.double w_completionSmoothing_ob)])) _
    exact retOut X1 hx Bd.returns rfl (Or.inr (Or.inr (Or.inl ⟨rfl, rfl, _, rfl⟩))) (hb hby d8_4) hr
  · show Q_rm_completionSmoothing Z ob w_completionSmoothing_ob h0 n0 _ T1.heap _
    rw [e1]
    exact ⟨rfl, N0, rfl⟩
theorem d9_0 : decode prog_8_method_35_code 0 = .ok (.aload_n 0, 1) := by decide +kernel
theorem d9_1 : decode prog_8_method_35_code 1 = .ok (.getfield 30, 3) := by decide +kernel
theorem d9_4 : decode prog_8_method_35_code 4 = .ok (.dreturn, 1) := by decide +kernel
def Q_rm_cutAboveError (Z : State) (ob : Addr) (w_cutAboveError_ob : UInt64) (h0 : Heap) (n0 : Nat) (v : Option Value) (h : Heap) (L : List Loc) : Prop := v = some (.double w_cutAboveError_ob) ∧ Fr n0 L ∧ h = h0
theorem ef_rm_cutAboveError (m : MethodId) (ob : Addr) : entryFrame m #[(.ref ob)] 1 = mkF m 0 #[.val (.ref ob)] [] := by first | (simp [entryFrame, mkF, argsToLocals, Value.category]; done) | rfl
set_option maxRecDepth 65536 in
set_option maxHeartbeats 40000000 in
theorem rm_cutAboveError (l : Launch) (Z : State) (a0 : Array Value) (hw : ∀ d ∈ tables_1, d.before a0 Z = true) (ws : List Jvm.Cond) (ob : Addr) (w_cutAboveError_ob : UInt64) (h0 : Heap) (n0 : Nat) (Z0 : n0 ≤ h0.size) (F_cutAboveError_ob : Fld Z h0 ob "com/example/tolc/tolc/ControllerSettings" "cutAboveError" "D" (.double w_cutAboveError_ob)) :
    MetFree l (⟨"com/example/tolc/tolc/ControllerSettings", "cutAboveError", "()D"⟩ : MethodName) (head1 (Jvm.Cond.code (⟨"com/example/tolc/tolc/ControllerSettings", "cutAboveError", "()D"⟩ : MethodName) prog_8_method_35_code 1 (some .double) :: ws) ({ frames := 0, cells := 0, slots := 0, locals := 0 } : Room)) (fun a U => a = #[(.ref ob)] ∧ Z.Warmed39 U.vm ∧ U.heap = h0) (fun _ _ _ _ _ => True) (fun _ U o U' => ∃ v L, o = .returned v ∧ Q_rm_cutAboveError Z ob w_cutAboveError_ob h0 n0 v U'.heap L ∧ FrameEnd U o U' L ({ frames := 0, cells := 0, slots := 0, locals := 0 } : Room).cells ({ frames := 0, cells := 0, slots := 0, locals := 0 } : Room).slots) := by
  refine MetFree.of_bodySF (plainFor_of_name pn_1) hisR ?_
  intro p e s m args below meth c s₁ Bd hml0 hP hK
  obtain ⟨rfl, hZ, hh⟩ := hP
  have hx := Bd.exec
  have hby := Bd.bytes
  have hml : c.maxLocals = 1 := hml0
  have hown : s.vm.findClass "com/example/tolc/tolc/ControllerSettings" = some m.cls := findClass_of_methodNamed Bd.named
  have hnm := (name_of_methodNamed Bd.named Bd.method).1
  have X0 : Stand p l e ({ frames := 0, cells := 0, slots := 0, locals := 0 } : Room) s m #[(.ref ob)] below meth c s₁ [] 0 0 := Stand.of_body Bd
  have e0 : s₁.heap = h0 := by rw [← hh, Bd.state]; rfl
  have N0 := Fr.nil n0
  have pre0 : ∀ t, Steps p.tables e below (s₁.setTop (mkF m 0 #[.val (.ref ob)] [])) t → Steps p.tables e below (s₁.setTop (entryFrame m #[(.ref ob)] 1)) t := fun t k => castTop (ef_rm_cutAboveError m ob) k
  obtain ⟨T1, X1, e1, st1⟩ := getF X0 hx hZ hown (host := "") (Or.inl (hw _ (List.mem_of_getElem? (i := 39) rfl))) Via.refl e0 F_cutAboveError_ob (g := (mkF m 1 #[.val (.ref ob)] [(.ref ob)])) rfl rfl (hb hby d9_1)
  obtain ⟨fs, hr, hrun, hended, hW, hsame⟩ := X1.leave (v := some (.double w_cutAboveError_ob)) (fun h => by rw [Bd.returns] at h; cases h)
  refine ⟨_, _, pre0 _ ?_, hrun, hended, _, _, rfl, ?_, ⟨_, rfl⟩, hW, hsame.mono (by decide) (by decide)⟩
  · show Steps p.tables e below (s₁.setTop (mkF m 0 #[.val (.ref ob)] [])) _
    refine XS.aloadN X0.here hx rfl (hb hby d9_0) rfl rfl ?_
    show Steps p.tables e below (s₁.setTop (mkF m 1 #[.val (.ref ob)] [(.ref ob)])) _
    refine st1 _ ?_
    show Steps p.tables e below (T1.setTop (mkF m 4 #[.val (.ref ob)] [(.double w_cutAboveError_ob)])) _
    exact retOut X1 hx Bd.returns rfl (Or.inr (Or.inr (Or.inl ⟨rfl, rfl, _, rfl⟩))) (hb hby d9_4) hr
  · show Q_rm_cutAboveError Z ob w_cutAboveError_ob h0 n0 _ T1.heap _
    rw [e1]
    exact ⟨rfl, N0, rfl⟩
theorem d10_0 : decode prog_8_method_36_code 0 = .ok (.aload_n 0, 1) := by decide +kernel
theorem d10_1 : decode prog_8_method_36_code 1 = .ok (.getfield 33, 3) := by decide +kernel
theorem d10_4 : decode prog_8_method_36_code 4 = .ok (.dreturn, 1) := by decide +kernel
def Q_rm_cutDivisor (Z : State) (ob : Addr) (w_cutDivisor_ob : UInt64) (h0 : Heap) (n0 : Nat) (v : Option Value) (h : Heap) (L : List Loc) : Prop := v = some (.double w_cutDivisor_ob) ∧ Fr n0 L ∧ h = h0
theorem ef_rm_cutDivisor (m : MethodId) (ob : Addr) : entryFrame m #[(.ref ob)] 1 = mkF m 0 #[.val (.ref ob)] [] := by first | (simp [entryFrame, mkF, argsToLocals, Value.category]; done) | rfl
set_option maxRecDepth 65536 in
set_option maxHeartbeats 40000000 in
theorem rm_cutDivisor (l : Launch) (Z : State) (a0 : Array Value) (hw : ∀ d ∈ tables_1, d.before a0 Z = true) (ws : List Jvm.Cond) (ob : Addr) (w_cutDivisor_ob : UInt64) (h0 : Heap) (n0 : Nat) (Z0 : n0 ≤ h0.size) (F_cutDivisor_ob : Fld Z h0 ob "com/example/tolc/tolc/ControllerSettings" "cutDivisor" "D" (.double w_cutDivisor_ob)) :
    MetFree l (⟨"com/example/tolc/tolc/ControllerSettings", "cutDivisor", "()D"⟩ : MethodName) (head1 (Jvm.Cond.code (⟨"com/example/tolc/tolc/ControllerSettings", "cutDivisor", "()D"⟩ : MethodName) prog_8_method_36_code 1 (some .double) :: ws) ({ frames := 0, cells := 0, slots := 0, locals := 0 } : Room)) (fun a U => a = #[(.ref ob)] ∧ Z.Warmed39 U.vm ∧ U.heap = h0) (fun _ _ _ _ _ => True) (fun _ U o U' => ∃ v L, o = .returned v ∧ Q_rm_cutDivisor Z ob w_cutDivisor_ob h0 n0 v U'.heap L ∧ FrameEnd U o U' L ({ frames := 0, cells := 0, slots := 0, locals := 0 } : Room).cells ({ frames := 0, cells := 0, slots := 0, locals := 0 } : Room).slots) := by
  refine MetFree.of_bodySF (plainFor_of_name pn_1) hisR ?_
  intro p e s m args below meth c s₁ Bd hml0 hP hK
  obtain ⟨rfl, hZ, hh⟩ := hP
  have hx := Bd.exec
  have hby := Bd.bytes
  have hml : c.maxLocals = 1 := hml0
  have hown : s.vm.findClass "com/example/tolc/tolc/ControllerSettings" = some m.cls := findClass_of_methodNamed Bd.named
  have hnm := (name_of_methodNamed Bd.named Bd.method).1
  have X0 : Stand p l e ({ frames := 0, cells := 0, slots := 0, locals := 0 } : Room) s m #[(.ref ob)] below meth c s₁ [] 0 0 := Stand.of_body Bd
  have e0 : s₁.heap = h0 := by rw [← hh, Bd.state]; rfl
  have N0 := Fr.nil n0
  have pre0 : ∀ t, Steps p.tables e below (s₁.setTop (mkF m 0 #[.val (.ref ob)] [])) t → Steps p.tables e below (s₁.setTop (entryFrame m #[(.ref ob)] 1)) t := fun t k => castTop (ef_rm_cutDivisor m ob) k
  obtain ⟨T1, X1, e1, st1⟩ := getF X0 hx hZ hown (host := "") (Or.inl (hw _ (List.mem_of_getElem? (i := 41) rfl))) Via.refl e0 F_cutDivisor_ob (g := (mkF m 1 #[.val (.ref ob)] [(.ref ob)])) rfl rfl (hb hby d10_1)
  obtain ⟨fs, hr, hrun, hended, hW, hsame⟩ := X1.leave (v := some (.double w_cutDivisor_ob)) (fun h => by rw [Bd.returns] at h; cases h)
  refine ⟨_, _, pre0 _ ?_, hrun, hended, _, _, rfl, ?_, ⟨_, rfl⟩, hW, hsame.mono (by decide) (by decide)⟩
  · show Steps p.tables e below (s₁.setTop (mkF m 0 #[.val (.ref ob)] [])) _
    refine XS.aloadN X0.here hx rfl (hb hby d10_0) rfl rfl ?_
    show Steps p.tables e below (s₁.setTop (mkF m 1 #[.val (.ref ob)] [(.ref ob)])) _
    refine st1 _ ?_
    show Steps p.tables e below (T1.setTop (mkF m 4 #[.val (.ref ob)] [(.double w_cutDivisor_ob)])) _
    exact retOut X1 hx Bd.returns rfl (Or.inr (Or.inr (Or.inl ⟨rfl, rfl, _, rfl⟩))) (hb hby d10_4) hr
  · show Q_rm_cutDivisor Z ob w_cutDivisor_ob h0 n0 _ T1.heap _
    rw [e1]
    exact ⟨rfl, N0, rfl⟩
theorem d11_0 : decode prog_8_method_37_code 0 = .ok (.aload_n 0, 1) := by decide +kernel
theorem d11_1 : decode prog_8_method_37_code 1 = .ok (.getfield 36, 3) := by decide +kernel
theorem d11_4 : decode prog_8_method_37_code 4 = .ok (.dreturn, 1) := by decide +kernel
def Q_rm_raiseBelowError (Z : State) (ob : Addr) (w_raiseBelowError_ob : UInt64) (h0 : Heap) (n0 : Nat) (v : Option Value) (h : Heap) (L : List Loc) : Prop := v = some (.double w_raiseBelowError_ob) ∧ Fr n0 L ∧ h = h0
theorem ef_rm_raiseBelowError (m : MethodId) (ob : Addr) : entryFrame m #[(.ref ob)] 1 = mkF m 0 #[.val (.ref ob)] [] := by first | (simp [entryFrame, mkF, argsToLocals, Value.category]; done) | rfl
set_option maxRecDepth 65536 in
set_option maxHeartbeats 40000000 in
theorem rm_raiseBelowError (l : Launch) (Z : State) (a0 : Array Value) (hw : ∀ d ∈ tables_1, d.before a0 Z = true) (ws : List Jvm.Cond) (ob : Addr) (w_raiseBelowError_ob : UInt64) (h0 : Heap) (n0 : Nat) (Z0 : n0 ≤ h0.size) (F_raiseBelowError_ob : Fld Z h0 ob "com/example/tolc/tolc/ControllerSettings" "raiseBelowError" "D" (.double w_raiseBelowError_ob)) :
    MetFree l (⟨"com/example/tolc/tolc/ControllerSettings", "raiseBelowError", "()D"⟩ : MethodName) (head1 (Jvm.Cond.code (⟨"com/example/tolc/tolc/ControllerSettings", "raiseBelowError", "()D"⟩ : MethodName) prog_8_method_37_code 1 (some .double) :: ws) ({ frames := 0, cells := 0, slots := 0, locals := 0 } : Room)) (fun a U => a = #[(.ref ob)] ∧ Z.Warmed39 U.vm ∧ U.heap = h0) (fun _ _ _ _ _ => True) (fun _ U o U' => ∃ v L, o = .returned v ∧ Q_rm_raiseBelowError Z ob w_raiseBelowError_ob h0 n0 v U'.heap L ∧ FrameEnd U o U' L ({ frames := 0, cells := 0, slots := 0, locals := 0 } : Room).cells ({ frames := 0, cells := 0, slots := 0, locals := 0 } : Room).slots) := by
  refine MetFree.of_bodySF (plainFor_of_name pn_1) hisR ?_
  intro p e s m args below meth c s₁ Bd hml0 hP hK
  obtain ⟨rfl, hZ, hh⟩ := hP
  have hx := Bd.exec
  have hby := Bd.bytes
  have hml : c.maxLocals = 1 := hml0
  have hown : s.vm.findClass "com/example/tolc/tolc/ControllerSettings" = some m.cls := findClass_of_methodNamed Bd.named
  have hnm := (name_of_methodNamed Bd.named Bd.method).1
  have X0 : Stand p l e ({ frames := 0, cells := 0, slots := 0, locals := 0 } : Room) s m #[(.ref ob)] below meth c s₁ [] 0 0 := Stand.of_body Bd
  have e0 : s₁.heap = h0 := by rw [← hh, Bd.state]; rfl
  have N0 := Fr.nil n0
  have pre0 : ∀ t, Steps p.tables e below (s₁.setTop (mkF m 0 #[.val (.ref ob)] [])) t → Steps p.tables e below (s₁.setTop (entryFrame m #[(.ref ob)] 1)) t := fun t k => castTop (ef_rm_raiseBelowError m ob) k
  obtain ⟨T1, X1, e1, st1⟩ := getF X0 hx hZ hown (host := "") (Or.inl (hw _ (List.mem_of_getElem? (i := 43) rfl))) Via.refl e0 F_raiseBelowError_ob (g := (mkF m 1 #[.val (.ref ob)] [(.ref ob)])) rfl rfl (hb hby d11_1)
  obtain ⟨fs, hr, hrun, hended, hW, hsame⟩ := X1.leave (v := some (.double w_raiseBelowError_ob)) (fun h => by rw [Bd.returns] at h; cases h)
  refine ⟨_, _, pre0 _ ?_, hrun, hended, _, _, rfl, ?_, ⟨_, rfl⟩, hW, hsame.mono (by decide) (by decide)⟩
  · show Steps p.tables e below (s₁.setTop (mkF m 0 #[.val (.ref ob)] [])) _
    refine XS.aloadN X0.here hx rfl (hb hby d11_0) rfl rfl ?_
    show Steps p.tables e below (s₁.setTop (mkF m 1 #[.val (.ref ob)] [(.ref ob)])) _
    refine st1 _ ?_
    show Steps p.tables e below (T1.setTop (mkF m 4 #[.val (.ref ob)] [(.double w_raiseBelowError_ob)])) _
    exact retOut X1 hx Bd.returns rfl (Or.inr (Or.inr (Or.inl ⟨rfl, rfl, _, rfl⟩))) (hb hby d11_4) hr
  · show Q_rm_raiseBelowError Z ob w_raiseBelowError_ob h0 n0 _ T1.heap _
    rw [e1]
    exact ⟨rfl, N0, rfl⟩
theorem d12_0 : decode prog_8_method_38_code 0 = .ok (.aload_n 0, 1) := by decide +kernel
theorem d12_1 : decode prog_8_method_38_code 1 = .ok (.getfield 39, 3) := by decide +kernel
theorem d12_4 : decode prog_8_method_38_code 4 = .ok (.dreturn, 1) := by decide +kernel
def Q_rm_raiseFromError (Z : State) (ob : Addr) (w_raiseFromError_ob : UInt64) (h0 : Heap) (n0 : Nat) (v : Option Value) (h : Heap) (L : List Loc) : Prop := v = some (.double w_raiseFromError_ob) ∧ Fr n0 L ∧ h = h0
theorem ef_rm_raiseFromError (m : MethodId) (ob : Addr) : entryFrame m #[(.ref ob)] 1 = mkF m 0 #[.val (.ref ob)] [] := by first | (simp [entryFrame, mkF, argsToLocals, Value.category]; done) | rfl
set_option maxRecDepth 65536 in
set_option maxHeartbeats 40000000 in
theorem rm_raiseFromError (l : Launch) (Z : State) (a0 : Array Value) (hw : ∀ d ∈ tables_1, d.before a0 Z = true) (ws : List Jvm.Cond) (ob : Addr) (w_raiseFromError_ob : UInt64) (h0 : Heap) (n0 : Nat) (Z0 : n0 ≤ h0.size) (F_raiseFromError_ob : Fld Z h0 ob "com/example/tolc/tolc/ControllerSettings" "raiseFromError" "D" (.double w_raiseFromError_ob)) :
    MetFree l (⟨"com/example/tolc/tolc/ControllerSettings", "raiseFromError", "()D"⟩ : MethodName) (head1 (Jvm.Cond.code (⟨"com/example/tolc/tolc/ControllerSettings", "raiseFromError", "()D"⟩ : MethodName) prog_8_method_38_code 1 (some .double) :: ws) ({ frames := 0, cells := 0, slots := 0, locals := 0 } : Room)) (fun a U => a = #[(.ref ob)] ∧ Z.Warmed39 U.vm ∧ U.heap = h0) (fun _ _ _ _ _ => True) (fun _ U o U' => ∃ v L, o = .returned v ∧ Q_rm_raiseFromError Z ob w_raiseFromError_ob h0 n0 v U'.heap L ∧ FrameEnd U o U' L ({ frames := 0, cells := 0, slots := 0, locals := 0 } : Room).cells ({ frames := 0, cells := 0, slots := 0, locals := 0 } : Room).slots) := by
  refine MetFree.of_bodySF (plainFor_of_name pn_1) hisR ?_
  intro p e s m args below meth c s₁ Bd hml0 hP hK
  obtain ⟨rfl, hZ, hh⟩ := hP
  have hx := Bd.exec
  have hby := Bd.bytes
  have hml : c.maxLocals = 1 := hml0
  have hown : s.vm.findClass "com/example/tolc/tolc/ControllerSettings" = some m.cls := findClass_of_methodNamed Bd.named
  have hnm := (name_of_methodNamed Bd.named Bd.method).1
  have X0 : Stand p l e ({ frames := 0, cells := 0, slots := 0, locals := 0 } : Room) s m #[(.ref ob)] below meth c s₁ [] 0 0 := Stand.of_body Bd
  have e0 : s₁.heap = h0 := by rw [← hh, Bd.state]; rfl
  have N0 := Fr.nil n0
  have pre0 : ∀ t, Steps p.tables e below (s₁.setTop (mkF m 0 #[.val (.ref ob)] [])) t → Steps p.tables e below (s₁.setTop (entryFrame m #[(.ref ob)] 1)) t := fun t k => castTop (ef_rm_raiseFromError m ob) k
  obtain ⟨T1, X1, e1, st1⟩ := getF X0 hx hZ hown (host := "") (Or.inl (hw _ (List.mem_of_getElem? (i := 45) rfl))) Via.refl e0 F_raiseFromError_ob (g := (mkF m 1 #[.val (.ref ob)] [(.ref ob)])) rfl rfl (hb hby d12_1)
  obtain ⟨fs, hr, hrun, hended, hW, hsame⟩ := X1.leave (v := some (.double w_raiseFromError_ob)) (fun h => by rw [Bd.returns] at h; cases h)
  refine ⟨_, _, pre0 _ ?_, hrun, hended, _, _, rfl, ?_, ⟨_, rfl⟩, hW, hsame.mono (by decide) (by decide)⟩
  · show Steps p.tables e below (s₁.setTop (mkF m 0 #[.val (.ref ob)] [])) _
    refine XS.aloadN X0.here hx rfl (hb hby d12_0) rfl rfl ?_
    show Steps p.tables e below (s₁.setTop (mkF m 1 #[.val (.ref ob)] [(.ref ob)])) _
    refine st1 _ ?_
    show Steps p.tables e below (T1.setTop (mkF m 4 #[.val (.ref ob)] [(.double w_raiseFromError_ob)])) _
    exact retOut X1 hx Bd.returns rfl (Or.inr (Or.inr (Or.inl ⟨rfl, rfl, _, rfl⟩))) (hb hby d12_4) hr
  · show Q_rm_raiseFromError Z ob w_raiseFromError_ob h0 n0 _ T1.heap _
    rw [e1]
    exact ⟨rfl, N0, rfl⟩
theorem d13_0 : decode prog_8_method_39_code 0 = .ok (.aload_n 0, 1) := by decide +kernel
theorem d13_1 : decode prog_8_method_39_code 1 = .ok (.getfield 42, 3) := by decide +kernel
theorem d13_4 : decode prog_8_method_39_code 4 = .ok (.dreturn, 1) := by decide +kernel
def Q_rm_raiseStep (Z : State) (ob : Addr) (w_raiseStep_ob : UInt64) (h0 : Heap) (n0 : Nat) (v : Option Value) (h : Heap) (L : List Loc) : Prop := v = some (.double w_raiseStep_ob) ∧ Fr n0 L ∧ h = h0
theorem ef_rm_raiseStep (m : MethodId) (ob : Addr) : entryFrame m #[(.ref ob)] 1 = mkF m 0 #[.val (.ref ob)] [] := by first | (simp [entryFrame, mkF, argsToLocals, Value.category]; done) | rfl
set_option maxRecDepth 65536 in
set_option maxHeartbeats 40000000 in
theorem rm_raiseStep (l : Launch) (Z : State) (a0 : Array Value) (hw : ∀ d ∈ tables_1, d.before a0 Z = true) (ws : List Jvm.Cond) (ob : Addr) (w_raiseStep_ob : UInt64) (h0 : Heap) (n0 : Nat) (Z0 : n0 ≤ h0.size) (F_raiseStep_ob : Fld Z h0 ob "com/example/tolc/tolc/ControllerSettings" "raiseStep" "D" (.double w_raiseStep_ob)) :
    MetFree l (⟨"com/example/tolc/tolc/ControllerSettings", "raiseStep", "()D"⟩ : MethodName) (head1 (Jvm.Cond.code (⟨"com/example/tolc/tolc/ControllerSettings", "raiseStep", "()D"⟩ : MethodName) prog_8_method_39_code 1 (some .double) :: ws) ({ frames := 0, cells := 0, slots := 0, locals := 0 } : Room)) (fun a U => a = #[(.ref ob)] ∧ Z.Warmed39 U.vm ∧ U.heap = h0) (fun _ _ _ _ _ => True) (fun _ U o U' => ∃ v L, o = .returned v ∧ Q_rm_raiseStep Z ob w_raiseStep_ob h0 n0 v U'.heap L ∧ FrameEnd U o U' L ({ frames := 0, cells := 0, slots := 0, locals := 0 } : Room).cells ({ frames := 0, cells := 0, slots := 0, locals := 0 } : Room).slots) := by
  refine MetFree.of_bodySF (plainFor_of_name pn_1) hisR ?_
  intro p e s m args below meth c s₁ Bd hml0 hP hK
  obtain ⟨rfl, hZ, hh⟩ := hP
  have hx := Bd.exec
  have hby := Bd.bytes
  have hml : c.maxLocals = 1 := hml0
  have hown : s.vm.findClass "com/example/tolc/tolc/ControllerSettings" = some m.cls := findClass_of_methodNamed Bd.named
  have hnm := (name_of_methodNamed Bd.named Bd.method).1
  have X0 : Stand p l e ({ frames := 0, cells := 0, slots := 0, locals := 0 } : Room) s m #[(.ref ob)] below meth c s₁ [] 0 0 := Stand.of_body Bd
  have e0 : s₁.heap = h0 := by rw [← hh, Bd.state]; rfl
  have N0 := Fr.nil n0
  have pre0 : ∀ t, Steps p.tables e below (s₁.setTop (mkF m 0 #[.val (.ref ob)] [])) t → Steps p.tables e below (s₁.setTop (entryFrame m #[(.ref ob)] 1)) t := fun t k => castTop (ef_rm_raiseStep m ob) k
  obtain ⟨T1, X1, e1, st1⟩ := getF X0 hx hZ hown (host := "") (Or.inl (hw _ (List.mem_of_getElem? (i := 47) rfl))) Via.refl e0 F_raiseStep_ob (g := (mkF m 1 #[.val (.ref ob)] [(.ref ob)])) rfl rfl (hb hby d13_1)
  obtain ⟨fs, hr, hrun, hended, hW, hsame⟩ := X1.leave (v := some (.double w_raiseStep_ob)) (fun h => by rw [Bd.returns] at h; cases h)
  refine ⟨_, _, pre0 _ ?_, hrun, hended, _, _, rfl, ?_, ⟨_, rfl⟩, hW, hsame.mono (by decide) (by decide)⟩
  · show Steps p.tables e below (s₁.setTop (mkF m 0 #[.val (.ref ob)] [])) _
    refine XS.aloadN X0.here hx rfl (hb hby d13_0) rfl rfl ?_
    show Steps p.tables e below (s₁.setTop (mkF m 1 #[.val (.ref ob)] [(.ref ob)])) _
    refine st1 _ ?_
    show Steps p.tables e below (T1.setTop (mkF m 4 #[.val (.ref ob)] [(.double w_raiseStep_ob)])) _
    exact retOut X1 hx Bd.returns rfl (Or.inr (Or.inr (Or.inl ⟨rfl, rfl, _, rfl⟩))) (hb hby d13_4) hr
  · show Q_rm_raiseStep Z ob w_raiseStep_ob h0 n0 _ T1.heap _
    rw [e1]
    exact ⟨rfl, N0, rfl⟩
theorem d14_0 : decode prog_8_method_40_code 0 = .ok (.aload_n 0, 1) := by decide +kernel
theorem d14_1 : decode prog_8_method_40_code 1 = .ok (.getfield 45, 3) := by decide +kernel
theorem d14_4 : decode prog_8_method_40_code 4 = .ok (.dreturn, 1) := by decide +kernel
def Q_rm_minRatePerSecond (Z : State) (ob : Addr) (w_minRatePerSecond_ob : UInt64) (h0 : Heap) (n0 : Nat) (v : Option Value) (h : Heap) (L : List Loc) : Prop := v = some (.double w_minRatePerSecond_ob) ∧ Fr n0 L ∧ h = h0
theorem ef_rm_minRatePerSecond (m : MethodId) (ob : Addr) : entryFrame m #[(.ref ob)] 1 = mkF m 0 #[.val (.ref ob)] [] := by first | (simp [entryFrame, mkF, argsToLocals, Value.category]; done) | rfl
set_option maxRecDepth 65536 in
set_option maxHeartbeats 40000000 in
theorem rm_minRatePerSecond (l : Launch) (Z : State) (a0 : Array Value) (hw : ∀ d ∈ tables_1, d.before a0 Z = true) (ws : List Jvm.Cond) (ob : Addr) (w_minRatePerSecond_ob : UInt64) (h0 : Heap) (n0 : Nat) (Z0 : n0 ≤ h0.size) (F_minRatePerSecond_ob : Fld Z h0 ob "com/example/tolc/tolc/ControllerSettings" "minRatePerSecond" "D" (.double w_minRatePerSecond_ob)) :
    MetFree l (⟨"com/example/tolc/tolc/ControllerSettings", "minRatePerSecond", "()D"⟩ : MethodName) (head1 (Jvm.Cond.code (⟨"com/example/tolc/tolc/ControllerSettings", "minRatePerSecond", "()D"⟩ : MethodName) prog_8_method_40_code 1 (some .double) :: ws) ({ frames := 0, cells := 0, slots := 0, locals := 0 } : Room)) (fun a U => a = #[(.ref ob)] ∧ Z.Warmed39 U.vm ∧ U.heap = h0) (fun _ _ _ _ _ => True) (fun _ U o U' => ∃ v L, o = .returned v ∧ Q_rm_minRatePerSecond Z ob w_minRatePerSecond_ob h0 n0 v U'.heap L ∧ FrameEnd U o U' L ({ frames := 0, cells := 0, slots := 0, locals := 0 } : Room).cells ({ frames := 0, cells := 0, slots := 0, locals := 0 } : Room).slots) := by
  refine MetFree.of_bodySF (plainFor_of_name pn_1) hisR ?_
  intro p e s m args below meth c s₁ Bd hml0 hP hK
  obtain ⟨rfl, hZ, hh⟩ := hP
  have hx := Bd.exec
  have hby := Bd.bytes
  have hml : c.maxLocals = 1 := hml0
  have hown : s.vm.findClass "com/example/tolc/tolc/ControllerSettings" = some m.cls := findClass_of_methodNamed Bd.named
  have hnm := (name_of_methodNamed Bd.named Bd.method).1
  have X0 : Stand p l e ({ frames := 0, cells := 0, slots := 0, locals := 0 } : Room) s m #[(.ref ob)] below meth c s₁ [] 0 0 := Stand.of_body Bd
  have e0 : s₁.heap = h0 := by rw [← hh, Bd.state]; rfl
  have N0 := Fr.nil n0
  have pre0 : ∀ t, Steps p.tables e below (s₁.setTop (mkF m 0 #[.val (.ref ob)] [])) t → Steps p.tables e below (s₁.setTop (entryFrame m #[(.ref ob)] 1)) t := fun t k => castTop (ef_rm_minRatePerSecond m ob) k
  obtain ⟨T1, X1, e1, st1⟩ := getF X0 hx hZ hown (host := "") (Or.inl (hw _ (List.mem_of_getElem? (i := 49) rfl))) Via.refl e0 F_minRatePerSecond_ob (g := (mkF m 1 #[.val (.ref ob)] [(.ref ob)])) rfl rfl (hb hby d14_1)
  obtain ⟨fs, hr, hrun, hended, hW, hsame⟩ := X1.leave (v := some (.double w_minRatePerSecond_ob)) (fun h => by rw [Bd.returns] at h; cases h)
  refine ⟨_, _, pre0 _ ?_, hrun, hended, _, _, rfl, ?_, ⟨_, rfl⟩, hW, hsame.mono (by decide) (by decide)⟩
  · show Steps p.tables e below (s₁.setTop (mkF m 0 #[.val (.ref ob)] [])) _
    refine XS.aloadN X0.here hx rfl (hb hby d14_0) rfl rfl ?_
    show Steps p.tables e below (s₁.setTop (mkF m 1 #[.val (.ref ob)] [(.ref ob)])) _
    refine st1 _ ?_
    show Steps p.tables e below (T1.setTop (mkF m 4 #[.val (.ref ob)] [(.double w_minRatePerSecond_ob)])) _
    exact retOut X1 hx Bd.returns rfl (Or.inr (Or.inr (Or.inl ⟨rfl, rfl, _, rfl⟩))) (hb hby d14_4) hr
  · show Q_rm_minRatePerSecond Z ob w_minRatePerSecond_ob h0 n0 _ T1.heap _
    rw [e1]
    exact ⟨rfl, N0, rfl⟩
theorem d15_0 : decode prog_8_method_41_code 0 = .ok (.aload_n 0, 1) := by decide +kernel
theorem d15_1 : decode prog_8_method_41_code 1 = .ok (.getfield 48, 3) := by decide +kernel
theorem d15_4 : decode prog_8_method_41_code 4 = .ok (.dreturn, 1) := by decide +kernel
def Q_rm_maxRatePerSecond (Z : State) (ob : Addr) (w_maxRatePerSecond_ob : UInt64) (h0 : Heap) (n0 : Nat) (v : Option Value) (h : Heap) (L : List Loc) : Prop := v = some (.double w_maxRatePerSecond_ob) ∧ Fr n0 L ∧ h = h0
theorem ef_rm_maxRatePerSecond (m : MethodId) (ob : Addr) : entryFrame m #[(.ref ob)] 1 = mkF m 0 #[.val (.ref ob)] [] := by first | (simp [entryFrame, mkF, argsToLocals, Value.category]; done) | rfl
set_option maxRecDepth 65536 in
set_option maxHeartbeats 40000000 in
theorem rm_maxRatePerSecond (l : Launch) (Z : State) (a0 : Array Value) (hw : ∀ d ∈ tables_1, d.before a0 Z = true) (ws : List Jvm.Cond) (ob : Addr) (w_maxRatePerSecond_ob : UInt64) (h0 : Heap) (n0 : Nat) (Z0 : n0 ≤ h0.size) (F_maxRatePerSecond_ob : Fld Z h0 ob "com/example/tolc/tolc/ControllerSettings" "maxRatePerSecond" "D" (.double w_maxRatePerSecond_ob)) :
    MetFree l (⟨"com/example/tolc/tolc/ControllerSettings", "maxRatePerSecond", "()D"⟩ : MethodName) (head1 (Jvm.Cond.code (⟨"com/example/tolc/tolc/ControllerSettings", "maxRatePerSecond", "()D"⟩ : MethodName) prog_8_method_41_code 1 (some .double) :: ws) ({ frames := 0, cells := 0, slots := 0, locals := 0 } : Room)) (fun a U => a = #[(.ref ob)] ∧ Z.Warmed39 U.vm ∧ U.heap = h0) (fun _ _ _ _ _ => True) (fun _ U o U' => ∃ v L, o = .returned v ∧ Q_rm_maxRatePerSecond Z ob w_maxRatePerSecond_ob h0 n0 v U'.heap L ∧ FrameEnd U o U' L ({ frames := 0, cells := 0, slots := 0, locals := 0 } : Room).cells ({ frames := 0, cells := 0, slots := 0, locals := 0 } : Room).slots) := by
  refine MetFree.of_bodySF (plainFor_of_name pn_1) hisR ?_
  intro p e s m args below meth c s₁ Bd hml0 hP hK
  obtain ⟨rfl, hZ, hh⟩ := hP
  have hx := Bd.exec
  have hby := Bd.bytes
  have hml : c.maxLocals = 1 := hml0
  have hown : s.vm.findClass "com/example/tolc/tolc/ControllerSettings" = some m.cls := findClass_of_methodNamed Bd.named
  have hnm := (name_of_methodNamed Bd.named Bd.method).1
  have X0 : Stand p l e ({ frames := 0, cells := 0, slots := 0, locals := 0 } : Room) s m #[(.ref ob)] below meth c s₁ [] 0 0 := Stand.of_body Bd
  have e0 : s₁.heap = h0 := by rw [← hh, Bd.state]; rfl
  have N0 := Fr.nil n0
  have pre0 : ∀ t, Steps p.tables e below (s₁.setTop (mkF m 0 #[.val (.ref ob)] [])) t → Steps p.tables e below (s₁.setTop (entryFrame m #[(.ref ob)] 1)) t := fun t k => castTop (ef_rm_maxRatePerSecond m ob) k
  obtain ⟨T1, X1, e1, st1⟩ := getF X0 hx hZ hown (host := "") (Or.inl (hw _ (List.mem_of_getElem? (i := 51) rfl))) Via.refl e0 F_maxRatePerSecond_ob (g := (mkF m 1 #[.val (.ref ob)] [(.ref ob)])) rfl rfl (hb hby d15_1)
  obtain ⟨fs, hr, hrun, hended, hW, hsame⟩ := X1.leave (v := some (.double w_maxRatePerSecond_ob)) (fun h => by rw [Bd.returns] at h; cases h)
  refine ⟨_, _, pre0 _ ?_, hrun, hended, _, _, rfl, ?_, ⟨_, rfl⟩, hW, hsame.mono (by decide) (by decide)⟩
  · show Steps p.tables e below (s₁.setTop (mkF m 0 #[.val (.ref ob)] [])) _
    refine XS.aloadN X0.here hx rfl (hb hby d15_0) rfl rfl ?_
    show Steps p.tables e below (s₁.setTop (mkF m 1 #[.val (.ref ob)] [(.ref ob)])) _
    refine st1 _ ?_
    show Steps p.tables e below (T1.setTop (mkF m 4 #[.val (.ref ob)] [(.double w_maxRatePerSecond_ob)])) _
    exact retOut X1 hx Bd.returns rfl (Or.inr (Or.inr (Or.inl ⟨rfl, rfl, _, rfl⟩))) (hb hby d15_4) hr
  · show Q_rm_maxRatePerSecond Z ob w_maxRatePerSecond_ob h0 n0 _ T1.heap _
    rw [e1]
    exact ⟨rfl, N0, rfl⟩
theorem d16_0 : decode prog_8_method_42_code 0 = .ok (.aload_n 0, 1) := by decide +kernel
theorem d16_1 : decode prog_8_method_42_code 1 = .ok (.getfield 51, 3) := by decide +kernel
theorem d16_4 : decode prog_8_method_42_code 4 = .ok (.dreturn, 1) := by decide +kernel
def Q_rm_initialRatePerSecond (Z : State) (ob : Addr) (w_initialRatePerSecond_ob : UInt64) (h0 : Heap) (n0 : Nat) (v : Option Value) (h : Heap) (L : List Loc) : Prop := v = some (.double w_initialRatePerSecond_ob) ∧ Fr n0 L ∧ h = h0
theorem ef_rm_initialRatePerSecond (m : MethodId) (ob : Addr) : entryFrame m #[(.ref ob)] 1 = mkF m 0 #[.val (.ref ob)] [] := by first | (simp [entryFrame, mkF, argsToLocals, Value.category]; done) | rfl
set_option maxRecDepth 65536 in
set_option maxHeartbeats 40000000 in
theorem rm_initialRatePerSecond (l : Launch) (Z : State) (a0 : Array Value) (hw : ∀ d ∈ tables_1, d.before a0 Z = true) (ws : List Jvm.Cond) (ob : Addr) (w_initialRatePerSecond_ob : UInt64) (h0 : Heap) (n0 : Nat) (Z0 : n0 ≤ h0.size) (F_initialRatePerSecond_ob : Fld Z h0 ob "com/example/tolc/tolc/ControllerSettings" "initialRatePerSecond" "D" (.double w_initialRatePerSecond_ob)) :
    MetFree l (⟨"com/example/tolc/tolc/ControllerSettings", "initialRatePerSecond", "()D"⟩ : MethodName) (head1 (Jvm.Cond.code (⟨"com/example/tolc/tolc/ControllerSettings", "initialRatePerSecond", "()D"⟩ : MethodName) prog_8_method_42_code 1 (some .double) :: ws) ({ frames := 0, cells := 0, slots := 0, locals := 0 } : Room)) (fun a U => a = #[(.ref ob)] ∧ Z.Warmed39 U.vm ∧ U.heap = h0) (fun _ _ _ _ _ => True) (fun _ U o U' => ∃ v L, o = .returned v ∧ Q_rm_initialRatePerSecond Z ob w_initialRatePerSecond_ob h0 n0 v U'.heap L ∧ FrameEnd U o U' L ({ frames := 0, cells := 0, slots := 0, locals := 0 } : Room).cells ({ frames := 0, cells := 0, slots := 0, locals := 0 } : Room).slots) := by
  refine MetFree.of_bodySF (plainFor_of_name pn_1) hisR ?_
  intro p e s m args below meth c s₁ Bd hml0 hP hK
  obtain ⟨rfl, hZ, hh⟩ := hP
  have hx := Bd.exec
  have hby := Bd.bytes
  have hml : c.maxLocals = 1 := hml0
  have hown : s.vm.findClass "com/example/tolc/tolc/ControllerSettings" = some m.cls := findClass_of_methodNamed Bd.named
  have hnm := (name_of_methodNamed Bd.named Bd.method).1
  have X0 : Stand p l e ({ frames := 0, cells := 0, slots := 0, locals := 0 } : Room) s m #[(.ref ob)] below meth c s₁ [] 0 0 := Stand.of_body Bd
  have e0 : s₁.heap = h0 := by rw [← hh, Bd.state]; rfl
  have N0 := Fr.nil n0
  have pre0 : ∀ t, Steps p.tables e below (s₁.setTop (mkF m 0 #[.val (.ref ob)] [])) t → Steps p.tables e below (s₁.setTop (entryFrame m #[(.ref ob)] 1)) t := fun t k => castTop (ef_rm_initialRatePerSecond m ob) k
  obtain ⟨T1, X1, e1, st1⟩ := getF X0 hx hZ hown (host := "") (Or.inl (hw _ (List.mem_of_getElem? (i := 53) rfl))) Via.refl e0 F_initialRatePerSecond_ob (g := (mkF m 1 #[.val (.ref ob)] [(.ref ob)])) rfl rfl (hb hby d16_1)
  obtain ⟨fs, hr, hrun, hended, hW, hsame⟩ := X1.leave (v := some (.double w_initialRatePerSecond_ob)) (fun h => by rw [Bd.returns] at h; cases h)
  refine ⟨_, _, pre0 _ ?_, hrun, hended, _, _, rfl, ?_, ⟨_, rfl⟩, hW, hsame.mono (by decide) (by decide)⟩
  · show Steps p.tables e below (s₁.setTop (mkF m 0 #[.val (.ref ob)] [])) _
    refine XS.aloadN X0.here hx rfl (hb hby d16_0) rfl rfl ?_
    show Steps p.tables e below (s₁.setTop (mkF m 1 #[.val (.ref ob)] [(.ref ob)])) _
    refine st1 _ ?_
    show Steps p.tables e below (T1.setTop (mkF m 4 #[.val (.ref ob)] [(.double w_initialRatePerSecond_ob)])) _
    exact retOut X1 hx Bd.returns rfl (Or.inr (Or.inr (Or.inl ⟨rfl, rfl, _, rfl⟩))) (hb hby d16_4) hr
  · show Q_rm_initialRatePerSecond Z ob w_initialRatePerSecond_ob h0 n0 _ T1.heap _
    rw [e1]
    exact ⟨rfl, N0, rfl⟩
theorem d17_0 : decode prog_8_method_43_code 0 = .ok (.aload_n 0, 1) := by decide +kernel
theorem d17_1 : decode prog_8_method_43_code 1 = .ok (.getfield 54, 3) := by decide +kernel
theorem d17_4 : decode prog_8_method_43_code 4 = .ok (.dreturn, 1) := by decide +kernel
def Q_rm_demandReach (Z : State) (ob : Addr) (w_demandReach_ob : UInt64) (h0 : Heap) (n0 : Nat) (v : Option Value) (h : Heap) (L : List Loc) : Prop := v = some (.double w_demandReach_ob) ∧ Fr n0 L ∧ h = h0
theorem ef_rm_demandReach (m : MethodId) (ob : Addr) : entryFrame m #[(.ref ob)] 1 = mkF m 0 #[.val (.ref ob)] [] := by first | (simp [entryFrame, mkF, argsToLocals, Value.category]; done) | rfl
set_option maxRecDepth 65536 in
set_option maxHeartbeats 40000000 in
theorem rm_demandReach (l : Launch) (Z : State) (a0 : Array Value) (hw : ∀ d ∈ tables_1, d.before a0 Z = true) (ws : List Jvm.Cond) (ob : Addr) (w_demandReach_ob : UInt64) (h0 : Heap) (n0 : Nat) (Z0 : n0 ≤ h0.size) (F_demandReach_ob : Fld Z h0 ob "com/example/tolc/tolc/ControllerSettings" "demandReach" "D" (.double w_demandReach_ob)) :
    MetFree l (⟨"com/example/tolc/tolc/ControllerSettings", "demandReach", "()D"⟩ : MethodName) (head1 (Jvm.Cond.code (⟨"com/example/tolc/tolc/ControllerSettings", "demandReach", "()D"⟩ : MethodName) prog_8_method_43_code 1 (some .double) :: ws) ({ frames := 0, cells := 0, slots := 0, locals := 0 } : Room)) (fun a U => a = #[(.ref ob)] ∧ Z.Warmed39 U.vm ∧ U.heap = h0) (fun _ _ _ _ _ => True) (fun _ U o U' => ∃ v L, o = .returned v ∧ Q_rm_demandReach Z ob w_demandReach_ob h0 n0 v U'.heap L ∧ FrameEnd U o U' L ({ frames := 0, cells := 0, slots := 0, locals := 0 } : Room).cells ({ frames := 0, cells := 0, slots := 0, locals := 0 } : Room).slots) := by
  refine MetFree.of_bodySF (plainFor_of_name pn_1) hisR ?_
  intro p e s m args below meth c s₁ Bd hml0 hP hK
  obtain ⟨rfl, hZ, hh⟩ := hP
  have hx := Bd.exec
  have hby := Bd.bytes
  have hml : c.maxLocals = 1 := hml0
  have hown : s.vm.findClass "com/example/tolc/tolc/ControllerSettings" = some m.cls := findClass_of_methodNamed Bd.named
  have hnm := (name_of_methodNamed Bd.named Bd.method).1
  have X0 : Stand p l e ({ frames := 0, cells := 0, slots := 0, locals := 0 } : Room) s m #[(.ref ob)] below meth c s₁ [] 0 0 := Stand.of_body Bd
  have e0 : s₁.heap = h0 := by rw [← hh, Bd.state]; rfl
  have N0 := Fr.nil n0
  have pre0 : ∀ t, Steps p.tables e below (s₁.setTop (mkF m 0 #[.val (.ref ob)] [])) t → Steps p.tables e below (s₁.setTop (entryFrame m #[(.ref ob)] 1)) t := fun t k => castTop (ef_rm_demandReach m ob) k
  obtain ⟨T1, X1, e1, st1⟩ := getF X0 hx hZ hown (host := "") (Or.inl (hw _ (List.mem_of_getElem? (i := 55) rfl))) Via.refl e0 F_demandReach_ob (g := (mkF m 1 #[.val (.ref ob)] [(.ref ob)])) rfl rfl (hb hby d17_1)
  obtain ⟨fs, hr, hrun, hended, hW, hsame⟩ := X1.leave (v := some (.double w_demandReach_ob)) (fun h => by rw [Bd.returns] at h; cases h)
  refine ⟨_, _, pre0 _ ?_, hrun, hended, _, _, rfl, ?_, ⟨_, rfl⟩, hW, hsame.mono (by decide) (by decide)⟩
  · show Steps p.tables e below (s₁.setTop (mkF m 0 #[.val (.ref ob)] [])) _
    refine XS.aloadN X0.here hx rfl (hb hby d17_0) rfl rfl ?_
    show Steps p.tables e below (s₁.setTop (mkF m 1 #[.val (.ref ob)] [(.ref ob)])) _
    refine st1 _ ?_
    show Steps p.tables e below (T1.setTop (mkF m 4 #[.val (.ref ob)] [(.double w_demandReach_ob)])) _
    exact retOut X1 hx Bd.returns rfl (Or.inr (Or.inr (Or.inl ⟨rfl, rfl, _, rfl⟩))) (hb hby d17_4) hr
  · show Q_rm_demandReach Z ob w_demandReach_ob h0 n0 _ T1.heap _
    rw [e1]
    exact ⟨rfl, N0, rfl⟩
theorem d18_0 : decode prog_8_method_44_code 0 = .ok (.aload_n 0, 1) := by decide +kernel
theorem d18_1 : decode prog_8_method_44_code 1 = .ok (.getfield 57, 3) := by decide +kernel
theorem d18_4 : decode prog_8_method_44_code 4 = .ok (.dreturn, 1) := by decide +kernel
def Q_rm_lowerCutDivisor (Z : State) (ob : Addr) (w_lowerCutDivisor_ob : UInt64) (h0 : Heap) (n0 : Nat) (v : Option Value) (h : Heap) (L : List Loc) : Prop := v = some (.double w_lowerCutDivisor_ob) ∧ Fr n0 L ∧ h = h0
theorem ef_rm_lowerCutDivisor (m : MethodId) (ob : Addr) : entryFrame m #[(.ref ob)] 1 = mkF m 0 #[.val (.ref ob)] [] := by first | (simp [entryFrame, mkF, argsToLocals, Value.category]; done) | rfl
set_option maxRecDepth 65536 in
set_option maxHeartbeats 40000000 in
theorem rm_lowerCutDivisor (l : Launch) (Z : State) (a0 : Array Value) (hw : ∀ d ∈ tables_1, d.before a0 Z = true) (ws : List Jvm.Cond) (ob : Addr) (w_lowerCutDivisor_ob : UInt64) (h0 : Heap) (n0 : Nat) (Z0 : n0 ≤ h0.size) (F_lowerCutDivisor_ob : Fld Z h0 ob "com/example/tolc/tolc/ControllerSettings" "lowerCutDivisor" "D" (.double w_lowerCutDivisor_ob)) :
    MetFree l (⟨"com/example/tolc/tolc/ControllerSettings", "lowerCutDivisor", "()D"⟩ : MethodName) (head1 (Jvm.Cond.code (⟨"com/example/tolc/tolc/ControllerSettings", "lowerCutDivisor", "()D"⟩ : MethodName) prog_8_method_44_code 1 (some .double) :: ws) ({ frames := 0, cells := 0, slots := 0, locals := 0 } : Room)) (fun a U => a = #[(.ref ob)] ∧ Z.Warmed39 U.vm ∧ U.heap = h0) (fun _ _ _ _ _ => True) (fun _ U o U' => ∃ v L, o = .returned v ∧ Q_rm_lowerCutDivisor Z ob w_lowerCutDivisor_ob h0 n0 v U'.heap L ∧ FrameEnd U o U' L ({ frames := 0, cells := 0, slots := 0, locals := 0 } : Room).cells ({ frames := 0, cells := 0, slots := 0, locals := 0 } : Room).slots) := by
  refine MetFree.of_bodySF (plainFor_of_name pn_1) hisR ?_
  intro p e s m args below meth c s₁ Bd hml0 hP hK
  obtain ⟨rfl, hZ, hh⟩ := hP
  have hx := Bd.exec
  have hby := Bd.bytes
  have hml : c.maxLocals = 1 := hml0
  have hown : s.vm.findClass "com/example/tolc/tolc/ControllerSettings" = some m.cls := findClass_of_methodNamed Bd.named
  have hnm := (name_of_methodNamed Bd.named Bd.method).1
  have X0 : Stand p l e ({ frames := 0, cells := 0, slots := 0, locals := 0 } : Room) s m #[(.ref ob)] below meth c s₁ [] 0 0 := Stand.of_body Bd
  have e0 : s₁.heap = h0 := by rw [← hh, Bd.state]; rfl
  have N0 := Fr.nil n0
  have pre0 : ∀ t, Steps p.tables e below (s₁.setTop (mkF m 0 #[.val (.ref ob)] [])) t → Steps p.tables e below (s₁.setTop (entryFrame m #[(.ref ob)] 1)) t := fun t k => castTop (ef_rm_lowerCutDivisor m ob) k
  obtain ⟨T1, X1, e1, st1⟩ := getF X0 hx hZ hown (host := "") (Or.inl (hw _ (List.mem_of_getElem? (i := 57) rfl))) Via.refl e0 F_lowerCutDivisor_ob (g := (mkF m 1 #[.val (.ref ob)] [(.ref ob)])) rfl rfl (hb hby d18_1)
  obtain ⟨fs, hr, hrun, hended, hW, hsame⟩ := X1.leave (v := some (.double w_lowerCutDivisor_ob)) (fun h => by rw [Bd.returns] at h; cases h)
  refine ⟨_, _, pre0 _ ?_, hrun, hended, _, _, rfl, ?_, ⟨_, rfl⟩, hW, hsame.mono (by decide) (by decide)⟩
  · show Steps p.tables e below (s₁.setTop (mkF m 0 #[.val (.ref ob)] [])) _
    refine XS.aloadN X0.here hx rfl (hb hby d18_0) rfl rfl ?_
    show Steps p.tables e below (s₁.setTop (mkF m 1 #[.val (.ref ob)] [(.ref ob)])) _
    refine st1 _ ?_
    show Steps p.tables e below (T1.setTop (mkF m 4 #[.val (.ref ob)] [(.double w_lowerCutDivisor_ob)])) _
    exact retOut X1 hx Bd.returns rfl (Or.inr (Or.inr (Or.inl ⟨rfl, rfl, _, rfl⟩))) (hb hby d18_4) hr
  · show Q_rm_lowerCutDivisor Z ob w_lowerCutDivisor_ob h0 n0 _ T1.heap _
    rw [e1]
    exact ⟨rfl, N0, rfl⟩
theorem d19_0 : decode prog_8_method_45_code 0 = .ok (.aload_n 0, 1) := by decide +kernel
theorem d19_1 : decode prog_8_method_45_code 1 = .ok (.getfield 60, 3) := by decide +kernel
theorem d19_4 : decode prog_8_method_45_code 4 = .ok (.ireturn, 1) := by decide +kernel
def Q_rm_ownCutRuns (Z : State) (ob : Addr) (w_ownCutRuns_ob : Int32) (h0 : Heap) (n0 : Nat) (v : Option Value) (h : Heap) (L : List Loc) : Prop := v = some (.int w_ownCutRuns_ob) ∧ Fr n0 L ∧ h = h0
theorem ef_rm_ownCutRuns (m : MethodId) (ob : Addr) : entryFrame m #[(.ref ob)] 1 = mkF m 0 #[.val (.ref ob)] [] := by first | (simp [entryFrame, mkF, argsToLocals, Value.category]; done) | rfl
set_option maxRecDepth 65536 in
set_option maxHeartbeats 40000000 in
theorem rm_ownCutRuns (l : Launch) (Z : State) (a0 : Array Value) (hw : ∀ d ∈ tables_1, d.before a0 Z = true) (ws : List Jvm.Cond) (ob : Addr) (w_ownCutRuns_ob : Int32) (h0 : Heap) (n0 : Nat) (Z0 : n0 ≤ h0.size) (F_ownCutRuns_ob : Fld Z h0 ob "com/example/tolc/tolc/ControllerSettings" "ownCutRuns" "I" (.int w_ownCutRuns_ob)) :
    MetFree l (⟨"com/example/tolc/tolc/ControllerSettings", "ownCutRuns", "()I"⟩ : MethodName) (head1 (Jvm.Cond.code (⟨"com/example/tolc/tolc/ControllerSettings", "ownCutRuns", "()I"⟩ : MethodName) prog_8_method_45_code 1 (some .int) :: ws) ({ frames := 0, cells := 0, slots := 0, locals := 0 } : Room)) (fun a U => a = #[(.ref ob)] ∧ Z.Warmed39 U.vm ∧ U.heap = h0) (fun _ _ _ _ _ => True) (fun _ U o U' => ∃ v L, o = .returned v ∧ Q_rm_ownCutRuns Z ob w_ownCutRuns_ob h0 n0 v U'.heap L ∧ FrameEnd U o U' L ({ frames := 0, cells := 0, slots := 0, locals := 0 } : Room).cells ({ frames := 0, cells := 0, slots := 0, locals := 0 } : Room).slots) := by
  refine MetFree.of_bodySF (plainFor_of_name pn_1) hisR ?_
  intro p e s m args below meth c s₁ Bd hml0 hP hK
  obtain ⟨rfl, hZ, hh⟩ := hP
  have hx := Bd.exec
  have hby := Bd.bytes
  have hml : c.maxLocals = 1 := hml0
  have hown : s.vm.findClass "com/example/tolc/tolc/ControllerSettings" = some m.cls := findClass_of_methodNamed Bd.named
  have hnm := (name_of_methodNamed Bd.named Bd.method).1
  have X0 : Stand p l e ({ frames := 0, cells := 0, slots := 0, locals := 0 } : Room) s m #[(.ref ob)] below meth c s₁ [] 0 0 := Stand.of_body Bd
  have e0 : s₁.heap = h0 := by rw [← hh, Bd.state]; rfl
  have N0 := Fr.nil n0
  have pre0 : ∀ t, Steps p.tables e below (s₁.setTop (mkF m 0 #[.val (.ref ob)] [])) t → Steps p.tables e below (s₁.setTop (entryFrame m #[(.ref ob)] 1)) t := fun t k => castTop (ef_rm_ownCutRuns m ob) k
  obtain ⟨T1, X1, e1, st1⟩ := getF X0 hx hZ hown (host := "") (Or.inl (hw _ (List.mem_of_getElem? (i := 59) rfl))) Via.refl e0 F_ownCutRuns_ob (g := (mkF m 1 #[.val (.ref ob)] [(.ref ob)])) rfl rfl (hb hby d19_1)
  obtain ⟨fs, hr, hrun, hended, hW, hsame⟩ := X1.leave (v := some (.int w_ownCutRuns_ob)) (fun h => by rw [Bd.returns] at h; cases h)
  refine ⟨_, _, pre0 _ ?_, hrun, hended, _, _, rfl, ?_, ⟨_, rfl⟩, hW, hsame.mono (by decide) (by decide)⟩
  · show Steps p.tables e below (s₁.setTop (mkF m 0 #[.val (.ref ob)] [])) _
    refine XS.aloadN X0.here hx rfl (hb hby d19_0) rfl rfl ?_
    show Steps p.tables e below (s₁.setTop (mkF m 1 #[.val (.ref ob)] [(.ref ob)])) _
    refine st1 _ ?_
    show Steps p.tables e below (T1.setTop (mkF m 4 #[.val (.ref ob)] [(.int w_ownCutRuns_ob)])) _
    exact retI X1 hx Bd.returns (hb hby d19_4) hr
  · show Q_rm_ownCutRuns Z ob w_ownCutRuns_ob h0 n0 _ T1.heap _
    rw [e1]
    exact ⟨rfl, N0, rfl⟩
theorem own_nn (t : Int32) : NoNaN64 (FP.ddiv (FP.i2d t) 4620693217682128896) := ddiv_out (i2d_fin _).noNaN (by unfold Fin64; decide) (by unfold Nz64; decide)
theorem pd_2 : parseMethodDescriptor "(D)Lcom/example/tolc/tolc/ControllerSettings;" = some ⟨[.double], some (.object "com/example/tolc/tolc/ControllerSettings")⟩ := by decide +kernel
theorem pd_3 : parseMethodDescriptor "()D" = some ⟨[], some .double⟩ := by decide +kernel
theorem pd_4 : parseMethodDescriptor "()I" = some ⟨[], some .int⟩ := by decide +kernel
theorem pd_5 : parseMethodDescriptor "()J" = some ⟨[], some .long⟩ := by decide +kernel
theorem pn_2 : plainName "com/example/tolc/tolc/ControllerSettingsForTargetPinLaw" = true := by first | (simp [plainName, overriddenIn]; done) | decide +kernel
def Q_rm0 (Z : State) (p0 : Int32) (h0 : Heap) (n0 : Nat) (v : Option Value) (h : Heap) (L : List Loc) : Prop := v = some (.int (1 : Int32)) ∧ Fr n0 L
theorem ef_rm0 (m : MethodId) (p0 : Int32) : entryFrame m #[(.int p0)] maxLocals = mkF m 0 #[.val (.int p0), .unset, .unset, .unset, .unset] [] := by first | (simp [entryFrame, mkF, argsToLocals, Value.category, maxLocals]; done) | rfl
set_option maxRecDepth 65536 in
set_option maxHeartbeats 40000000 in
theorem rm0 (l : Launch) (Z : State) (a0 : Array Value) (hw : ∀ d ∈ tables_1, d.before a0 Z = true) (ws : List Jvm.Cond) (p0 : Int32) (h0 : Heap) (n0 : Nat) (Z0 : n0 ≤ h0.size) :
    MetFree l x (head1 (Jvm.Cond.code x code maxLocals ret :: ws) room_1) (fun a U => a = #[(.int p0)] ∧ Z.Warmed39 U.vm ∧ U.heap = h0) (fun _ _ _ _ _ => True) (fun _ U o U' => ∃ v L, o = .returned v ∧ Q_rm0 Z p0 h0 n0 v U'.heap L ∧ FrameEnd U o U' L room_1.cells room_1.slots) := by
  refine MetFree.of_bodySF (plainFor_of_name pn_2) hisR ?_
  intro p e s m args below meth c s₁ Bd hml0 hP hK
  obtain ⟨rfl, hZ, hh⟩ := hP
  have hx := Bd.exec
  have hby := Bd.bytes
  have hml : c.maxLocals = 5 := hml0
  have hown : s.vm.findClass "com/example/tolc/tolc/ControllerSettingsForTargetPinLaw" = some m.cls := findClass_of_methodNamed Bd.named
  have hnm := (name_of_methodNamed Bd.named Bd.method).1
  have X0 : Stand p l e room_1 s m #[(.int p0)] below meth c s₁ [] 0 0 := Stand.of_body Bd
  have e0 : s₁.heap = h0 := by rw [← hh, Bd.state]; rfl
  have N0 := Fr.nil n0
  have pre0 : ∀ t, Steps p.tables e below (s₁.setTop (mkF m 0 #[.val (.int p0), .unset, .unset, .unset, .unset] [])) t → Steps p.tables e below (s₁.setTop (entryFrame m #[(.int p0)] maxLocals)) t := fun t k => castTop (ef_rm0 m p0) k
  obtain ⟨_, _, ⟨T1, L1, k1, n1⟩, -, X1, ⟨Lc1, hQ1, l1, y1, z1⟩, st1⟩ := Jvm.LawKit.callS X0 hx (y := (⟨"com/example/tolc/tolc/ControllerSettings", "forTarget", "(D)Lcom/example/tolc/tolc/ControllerSettings;"⟩ : MethodName)) hown (mvT hZ (hw _ (List.mem_of_getElem? (i := 1) rfl))) (mvT hZ (hw _ (List.mem_of_getElem? (i := 2) rfl))) (mvT hZ (hw _ (List.mem_of_getElem? (i := 3) rfl))) (mvT hZ (hw _ (List.mem_of_getElem? (i := 4) rfl))) (by decide) (backOf (W := 0) (rmF l Z a0 hw [] (FP.ddiv (FP.i2d p0) 4620693217682128896) h0 n0 Z0) hZ (hw _ (List.mem_of_getElem? (i := 4) rfl)) (hw _ (List.mem_of_getElem? (i := 3) rfl)) (by decide) (by decide)) (g := (mkF m 8 #[.val (.int p0), .val (.double (FP.ddiv (FP.i2d p0) 4620693217682128896)), .second, .unset, .unset] [(.double (FP.ddiv (FP.i2d p0) 4620693217682128896))])) rfl (by rw [hml]; rfl) (argsL := [(.double (FP.ddiv (FP.i2d p0) 4620693217682128896))]) (rest := []) (lenOf pd_2 rfl) rfl (by show 2 * 0 + _ ≤ _; exact Nat.le_of_eq rfl) (hb hby at_8) (fun _ _ => ⟨rfl, e0, (by decide : 0 + 1 ≤ _), (by decide : 0 + 17 ≤ _)⟩)
  dsimp only [Pt.U, Pt.locs, Pt.cells, Pt.slots] at X1 l1 y1 z1 st1 hQ1
  subst l1 y1 z1
  obtain ⟨nb_1, rfl, Nq1, gb1_0, Kp1, Fq1_0, Fq1_1, Fq1_2, Fq1_3, Fq1_4, Fq1_5, Fq1_6, Fq1_7, Fq1_8, Fq1_9, Fq1_10, Fq1_11, Fq1_12, Fq1_13, Fq1_14, Fq1_15, Fq1_16, Fq1_17⟩ := hQ1
  have N1 := Fr.app N0 Nq1
  obtain ⟨cq2, kq2, q2a, q2b, q2c⟩ := isOf hZ rfl Fq1_0
  obtain ⟨_, _, ⟨T2, L2, k2, n2⟩, -, X2, ⟨Lc2, hQ2, l2, y2, z2⟩, st2⟩ := X1.virtualBack hx (y := (⟨"com/example/tolc/tolc/ControllerSettings", "targetP90Millis", "()D"⟩ : MethodName)) (z := (⟨"com/example/tolc/tolc/ControllerSettings", "targetP90Millis", "()D"⟩ : MethodName)) hown (mvT hZ (hw _ (List.mem_of_getElem? (i := 61) rfl))) (mvT hZ (hw _ (List.mem_of_getElem? (i := 62) rfl))) (notFace_of_selects (args := #[]) (mvT hZ (hw _ (List.mem_of_getElem? (i := 64) rfl)))) (mvT hZ (hw _ (List.mem_of_getElem? (i := 64) rfl))) (mvT hZ (hw _ (List.mem_of_getElem? (i := 63) rfl))) (by decide) (backOf (W := 0) (rm_targetP90Millis l Z a0 hw [] nb_1 (FP.ddiv (FP.i2d p0) 4620693217682128896) T1.heap n0 (Nat.le_trans Z0 Kp1.1) Fq1_1) hZ (hw _ (List.mem_of_getElem? (i := 65) rfl)) (hw _ (List.mem_of_getElem? (i := 3) rfl)) (by decide) (by decide)) q2a q2c (g := (mkF m 13 #[.val (.int p0), .val (.double (FP.ddiv (FP.i2d p0) 4620693217682128896)), .second, .val (.ref nb_1), .unset] [(.ref nb_1)])) rfl (by rw [hml]; rfl) (Steps.refl _) (argsL := []) (rest := []) (lenOf pd_3 rfl) rfl (by show 2 * 0 + _ ≤ _; exact Nat.le_of_eq rfl) (hb hby at_13) (fun _ _ => ⟨rfl, rfl, (by decide : 1 + 0 ≤ _), (by decide : 17 + 0 ≤ _)⟩)
  dsimp only [Pt.U, Pt.locs, Pt.cells, Pt.slots] at X2 l2 y2 z2 st2 hQ2
  subst l2 y2 z2
  obtain ⟨rfl, Nq2, e2⟩ := hQ2
  have N2 := Fr.app N1 Nq2
  obtain ⟨cq3, kq3, q3a, q3b, q3c⟩ := isOf hZ e2 Fq1_0
  obtain ⟨_, _, ⟨T3, L3, k3, n3⟩, -, X3, ⟨Lc3, hQ3, l3, y3, z3⟩, st3⟩ := X2.virtualBack hx (y := (⟨"com/example/tolc/tolc/ControllerSettings", "samplesPerRun", "()I"⟩ : MethodName)) (z := (⟨"com/example/tolc/tolc/ControllerSettings", "samplesPerRun", "()I"⟩ : MethodName)) hown (mvT hZ (hw _ (List.mem_of_getElem? (i := 66) rfl))) (mvT hZ (hw _ (List.mem_of_getElem? (i := 67) rfl))) (notFace_of_selects (args := #[]) (mvT hZ (hw _ (List.mem_of_getElem? (i := 69) rfl)))) (mvT hZ (hw _ (List.mem_of_getElem? (i := 69) rfl))) (mvT hZ (hw _ (List.mem_of_getElem? (i := 68) rfl))) (by decide) (backOf (W := 0) (rm_samplesPerRun l Z a0 hw [] nb_1 (100 : Int32) T1.heap n0 (Nat.le_trans Z0 Kp1.1) Fq1_2) hZ (hw _ (List.mem_of_getElem? (i := 70) rfl)) (hw _ (List.mem_of_getElem? (i := 3) rfl)) (by decide) (by decide)) q3a q3c (g := (mkF m 34 #[.val (.int p0), .val (.double (FP.ddiv (FP.i2d p0) 4620693217682128896)), .second, .val (.ref nb_1), .val (.int (1 : Int32))] [(.ref nb_1)])) rfl (by rw [hml]; rfl) (Steps.refl _) (argsL := []) (rest := []) (lenOf pd_4 rfl) rfl (by show 2 * 0 + _ ≤ _; exact Nat.le_of_eq rfl) (hb hby at_34) (fun _ _ => ⟨rfl, e2, (by decide : 1 + 0 ≤ _), (by decide : 17 + 0 ≤ _)⟩)
  dsimp only [Pt.U, Pt.locs, Pt.cells, Pt.slots] at X3 l3 y3 z3 st3 hQ3
  subst l3 y3 z3
  obtain ⟨rfl, Nq3, e3⟩ := hQ3
  have N3 := Fr.app N2 Nq3
  obtain ⟨cq4, kq4, q4a, q4b, q4c⟩ := isOf hZ e3 Fq1_0
  obtain ⟨_, _, ⟨T4, L4, k4, n4⟩, -, X4, ⟨Lc4, hQ4, l4, y4, z4⟩, st4⟩ := X3.virtualBack hx (y := (⟨"com/example/tolc/tolc/ControllerSettings", "timeoutMillis", "()J"⟩ : MethodName)) (z := (⟨"com/example/tolc/tolc/ControllerSettings", "timeoutMillis", "()J"⟩ : MethodName)) hown (mvT hZ (hw _ (List.mem_of_getElem? (i := 71) rfl))) (mvT hZ (hw _ (List.mem_of_getElem? (i := 72) rfl))) (notFace_of_selects (args := #[]) (mvT hZ (hw _ (List.mem_of_getElem? (i := 74) rfl)))) (mvT hZ (hw _ (List.mem_of_getElem? (i := 74) rfl))) (mvT hZ (hw _ (List.mem_of_getElem? (i := 73) rfl))) (by decide) (backOf (W := 0) (rm_timeoutMillis l Z a0 hw [] nb_1 (1000 : Int64) T1.heap n0 (Nat.le_trans Z0 Kp1.1) Fq1_3) hZ (hw _ (List.mem_of_getElem? (i := 75) rfl)) (hw _ (List.mem_of_getElem? (i := 3) rfl)) (by decide) (by decide)) q4a q4c (g := (mkF m 55 #[.val (.int p0), .val (.double (FP.ddiv (FP.i2d p0) 4620693217682128896)), .second, .val (.ref nb_1), .val (.int (1 : Int32))] [(.ref nb_1)])) rfl (by rw [hml]; rfl) (Steps.refl _) (argsL := []) (rest := []) (lenOf pd_5 rfl) rfl (by show 2 * 0 + _ ≤ _; exact Nat.le_of_eq rfl) (hb hby at_55) (fun _ _ => ⟨rfl, e3, (by decide : 1 + 0 ≤ _), (by decide : 17 + 0 ≤ _)⟩)
  dsimp only [Pt.U, Pt.locs, Pt.cells, Pt.slots] at X4 l4 y4 z4 st4 hQ4
  subst l4 y4 z4
  obtain ⟨rfl, Nq4, e4⟩ := hQ4
  have N4 := Fr.app N3 Nq4
  obtain ⟨cq5, kq5, q5a, q5b, q5c⟩ := isOf hZ e4 Fq1_0
  obtain ⟨_, _, ⟨T5, L5, k5, n5⟩, -, X5, ⟨Lc5, hQ5, l5, y5, z5⟩, st5⟩ := X4.virtualBack hx (y := (⟨"com/example/tolc/tolc/ControllerSettings", "earlyRunSamples", "()I"⟩ : MethodName)) (z := (⟨"com/example/tolc/tolc/ControllerSettings", "earlyRunSamples", "()I"⟩ : MethodName)) hown (mvT hZ (hw _ (List.mem_of_getElem? (i := 77) rfl))) (mvT hZ (hw _ (List.mem_of_getElem? (i := 78) rfl))) (notFace_of_selects (args := #[]) (mvT hZ (hw _ (List.mem_of_getElem? (i := 80) rfl)))) (mvT hZ (hw _ (List.mem_of_getElem? (i := 80) rfl))) (mvT hZ (hw _ (List.mem_of_getElem? (i := 79) rfl))) (by decide) (backOf (W := 0) (rm_earlyRunSamples l Z a0 hw [] nb_1 (20 : Int32) T1.heap n0 (Nat.le_trans Z0 Kp1.1) Fq1_4) hZ (hw _ (List.mem_of_getElem? (i := 81) rfl)) (hw _ (List.mem_of_getElem? (i := 3) rfl)) (by decide) (by decide)) q5a q5c (g := (mkF m 78 #[.val (.int p0), .val (.double (FP.ddiv (FP.i2d p0) 4620693217682128896)), .second, .val (.ref nb_1), .val (.int (1 : Int32))] [(.ref nb_1)])) rfl (by rw [hml]; rfl) (Steps.refl _) (argsL := []) (rest := []) (lenOf pd_4 rfl) rfl (by show 2 * 0 + _ ≤ _; exact Nat.le_of_eq rfl) (hb hby at_78) (fun _ _ => ⟨rfl, e4, (by decide : 1 + 0 ≤ _), (by decide : 17 + 0 ≤ _)⟩)
  dsimp only [Pt.U, Pt.locs, Pt.cells, Pt.slots] at X5 l5 y5 z5 st5 hQ5
  subst l5 y5 z5
  obtain ⟨rfl, Nq5, e5⟩ := hQ5
  have N5 := Fr.app N4 Nq5
  obtain ⟨cq6, kq6, q6a, q6b, q6c⟩ := isOf hZ e5 Fq1_0
  obtain ⟨_, _, ⟨T6, L6, k6, n6⟩, -, X6, ⟨Lc6, hQ6, l6, y6, z6⟩, st6⟩ := X5.virtualBack hx (y := (⟨"com/example/tolc/tolc/ControllerSettings", "smoothing", "()D"⟩ : MethodName)) (z := (⟨"com/example/tolc/tolc/ControllerSettings", "smoothing", "()D"⟩ : MethodName)) hown (mvT hZ (hw _ (List.mem_of_getElem? (i := 82) rfl))) (mvT hZ (hw _ (List.mem_of_getElem? (i := 83) rfl))) (notFace_of_selects (args := #[]) (mvT hZ (hw _ (List.mem_of_getElem? (i := 85) rfl)))) (mvT hZ (hw _ (List.mem_of_getElem? (i := 85) rfl))) (mvT hZ (hw _ (List.mem_of_getElem? (i := 84) rfl))) (by decide) (backOf (W := 0) (rm_smoothing l Z a0 hw [] nb_1 4602678819172646912 T1.heap n0 (Nat.le_trans Z0 Kp1.1) Fq1_5) hZ (hw _ (List.mem_of_getElem? (i := 86) rfl)) (hw _ (List.mem_of_getElem? (i := 3) rfl)) (by decide) (by decide)) q6a q6c (g := (mkF m 99 #[.val (.int p0), .val (.double (FP.ddiv (FP.i2d p0) 4620693217682128896)), .second, .val (.ref nb_1), .val (.int (1 : Int32))] [(.ref nb_1)])) rfl (by rw [hml]; rfl) (Steps.refl _) (argsL := []) (rest := []) (lenOf pd_3 rfl) rfl (by show 2 * 0 + _ ≤ _; exact Nat.le_of_eq rfl) (hb hby at_99) (fun _ _ => ⟨rfl, e5, (by decide : 1 + 0 ≤ _), (by decide : 17 + 0 ≤ _)⟩)
  dsimp only [Pt.U, Pt.locs, Pt.cells, Pt.slots] at X6 l6 y6 z6 st6 hQ6
  subst l6 y6 z6
  obtain ⟨rfl, Nq6, e6⟩ := hQ6
  have N6 := Fr.app N5 Nq6
  obtain ⟨cq7, kq7, q7a, q7b, q7c⟩ := isOf hZ e6 Fq1_0
  obtain ⟨_, _, ⟨T7, L7, k7, n7⟩, -, X7, ⟨Lc7, hQ7, l7, y7, z7⟩, st7⟩ := X6.virtualBack hx (y := (⟨"com/example/tolc/tolc/ControllerSettings", "completionSmoothing", "()D"⟩ : MethodName)) (z := (⟨"com/example/tolc/tolc/ControllerSettings", "completionSmoothing", "()D"⟩ : MethodName)) hown (mvT hZ (hw _ (List.mem_of_getElem? (i := 88) rfl))) (mvT hZ (hw _ (List.mem_of_getElem? (i := 89) rfl))) (notFace_of_selects (args := #[]) (mvT hZ (hw _ (List.mem_of_getElem? (i := 91) rfl)))) (mvT hZ (hw _ (List.mem_of_getElem? (i := 91) rfl))) (mvT hZ (hw _ (List.mem_of_getElem? (i := 90) rfl))) (by decide) (backOf (W := 0) (rm_completionSmoothing l Z a0 hw [] nb_1 4605380978949069210 T1.heap n0 (Nat.le_trans Z0 Kp1.1) Fq1_6) hZ (hw _ (List.mem_of_getElem? (i := 92) rfl)) (hw _ (List.mem_of_getElem? (i := 3) rfl)) (by decide) (by decide)) q7a q7c (g := (mkF m 122 #[.val (.int p0), .val (.double (FP.ddiv (FP.i2d p0) 4620693217682128896)), .second, .val (.ref nb_1), .val (.int (1 : Int32))] [(.ref nb_1)])) rfl (by rw [hml]; rfl) (Steps.refl _) (argsL := []) (rest := []) (lenOf pd_3 rfl) rfl (by show 2 * 0 + _ ≤ _; exact Nat.le_of_eq rfl) (hb hby at_122) (fun _ _ => ⟨rfl, e6, (by decide : 1 + 0 ≤ _), (by decide : 17 + 0 ≤ _)⟩)
  dsimp only [Pt.U, Pt.locs, Pt.cells, Pt.slots] at X7 l7 y7 z7 st7 hQ7
  subst l7 y7 z7
  obtain ⟨rfl, Nq7, e7⟩ := hQ7
  have N7 := Fr.app N6 Nq7
  obtain ⟨cq8, kq8, q8a, q8b, q8c⟩ := isOf hZ e7 Fq1_0
  obtain ⟨_, _, ⟨T8, L8, k8, n8⟩, -, X8, ⟨Lc8, hQ8, l8, y8, z8⟩, st8⟩ := X7.virtualBack hx (y := (⟨"com/example/tolc/tolc/ControllerSettings", "cutAboveError", "()D"⟩ : MethodName)) (z := (⟨"com/example/tolc/tolc/ControllerSettings", "cutAboveError", "()D"⟩ : MethodName)) hown (mvT hZ (hw _ (List.mem_of_getElem? (i := 94) rfl))) (mvT hZ (hw _ (List.mem_of_getElem? (i := 95) rfl))) (notFace_of_selects (args := #[]) (mvT hZ (hw _ (List.mem_of_getElem? (i := 97) rfl)))) (mvT hZ (hw _ (List.mem_of_getElem? (i := 97) rfl))) (mvT hZ (hw _ (List.mem_of_getElem? (i := 96) rfl))) (by decide) (backOf (W := 0) (rm_cutAboveError l Z a0 hw [] nb_1 0 T1.heap n0 (Nat.le_trans Z0 Kp1.1) Fq1_7) hZ (hw _ (List.mem_of_getElem? (i := 98) rfl)) (hw _ (List.mem_of_getElem? (i := 3) rfl)) (by decide) (by decide)) q8a q8c (g := (mkF m 145 #[.val (.int p0), .val (.double (FP.ddiv (FP.i2d p0) 4620693217682128896)), .second, .val (.ref nb_1), .val (.int (1 : Int32))] [(.ref nb_1)])) rfl (by rw [hml]; rfl) (Steps.refl _) (argsL := []) (rest := []) (lenOf pd_3 rfl) rfl (by show 2 * 0 + _ ≤ _; exact Nat.le_of_eq rfl) (hb hby at_145) (fun _ _ => ⟨rfl, e7, (by decide : 1 + 0 ≤ _), (by decide : 17 + 0 ≤ _)⟩)
  dsimp only [Pt.U, Pt.locs, Pt.cells, Pt.slots] at X8 l8 y8 z8 st8 hQ8
  subst l8 y8 z8
  obtain ⟨rfl, Nq8, e8⟩ := hQ8
  have N8 := Fr.app N7 Nq8
  obtain ⟨cq9, kq9, q9a, q9b, q9c⟩ := isOf hZ e8 Fq1_0
  obtain ⟨_, _, ⟨T9, L9, k9, n9⟩, -, X9, ⟨Lc9, hQ9, l9, y9, z9⟩, st9⟩ := X8.virtualBack hx (y := (⟨"com/example/tolc/tolc/ControllerSettings", "cutDivisor", "()D"⟩ : MethodName)) (z := (⟨"com/example/tolc/tolc/ControllerSettings", "cutDivisor", "()D"⟩ : MethodName)) hown (mvT hZ (hw _ (List.mem_of_getElem? (i := 99) rfl))) (mvT hZ (hw _ (List.mem_of_getElem? (i := 100) rfl))) (notFace_of_selects (args := #[]) (mvT hZ (hw _ (List.mem_of_getElem? (i := 102) rfl)))) (mvT hZ (hw _ (List.mem_of_getElem? (i := 102) rfl))) (mvT hZ (hw _ (List.mem_of_getElem? (i := 101) rfl))) (by decide) (backOf (W := 0) (rm_cutDivisor l Z a0 hw [] nb_1 4608083138725491507 T1.heap n0 (Nat.le_trans Z0 Kp1.1) Fq1_8) hZ (hw _ (List.mem_of_getElem? (i := 103) rfl)) (hw _ (List.mem_of_getElem? (i := 3) rfl)) (by decide) (by decide)) q9a q9c (g := (mkF m 166 #[.val (.int p0), .val (.double (FP.ddiv (FP.i2d p0) 4620693217682128896)), .second, .val (.ref nb_1), .val (.int (1 : Int32))] [(.ref nb_1)])) rfl (by rw [hml]; rfl) (Steps.refl _) (argsL := []) (rest := []) (lenOf pd_3 rfl) rfl (by show 2 * 0 + _ ≤ _; exact Nat.le_of_eq rfl) (hb hby at_166) (fun _ _ => ⟨rfl, e8, (by decide : 1 + 0 ≤ _), (by decide : 17 + 0 ≤ _)⟩)
  dsimp only [Pt.U, Pt.locs, Pt.cells, Pt.slots] at X9 l9 y9 z9 st9 hQ9
  subst l9 y9 z9
  obtain ⟨rfl, Nq9, e9⟩ := hQ9
  have N9 := Fr.app N8 Nq9
  obtain ⟨cq10, kq10, q10a, q10b, q10c⟩ := isOf hZ e9 Fq1_0
  obtain ⟨_, _, ⟨T10, L10, k10, n10⟩, -, X10, ⟨Lc10, hQ10, l10, y10, z10⟩, st10⟩ := X9.virtualBack hx (y := (⟨"com/example/tolc/tolc/ControllerSettings", "raiseBelowError", "()D"⟩ : MethodName)) (z := (⟨"com/example/tolc/tolc/ControllerSettings", "raiseBelowError", "()D"⟩ : MethodName)) hown (mvT hZ (hw _ (List.mem_of_getElem? (i := 105) rfl))) (mvT hZ (hw _ (List.mem_of_getElem? (i := 106) rfl))) (notFace_of_selects (args := #[]) (mvT hZ (hw _ (List.mem_of_getElem? (i := 108) rfl)))) (mvT hZ (hw _ (List.mem_of_getElem? (i := 108) rfl))) (mvT hZ (hw _ (List.mem_of_getElem? (i := 107) rfl))) (by decide) (backOf (W := 0) (rm_raiseBelowError l Z a0 hw [] nb_1 13822447976325526323 T1.heap n0 (Nat.le_trans Z0 Kp1.1) Fq1_9) hZ (hw _ (List.mem_of_getElem? (i := 109) rfl)) (hw _ (List.mem_of_getElem? (i := 3) rfl)) (by decide) (by decide)) q10a q10c (g := (mkF m 189 #[.val (.int p0), .val (.double (FP.ddiv (FP.i2d p0) 4620693217682128896)), .second, .val (.ref nb_1), .val (.int (1 : Int32))] [(.ref nb_1)])) rfl (by rw [hml]; rfl) (Steps.refl _) (argsL := []) (rest := []) (lenOf pd_3 rfl) rfl (by show 2 * 0 + _ ≤ _; exact Nat.le_of_eq rfl) (hb hby at_189) (fun _ _ => ⟨rfl, e9, (by decide : 1 + 0 ≤ _), (by decide : 17 + 0 ≤ _)⟩)
  dsimp only [Pt.U, Pt.locs, Pt.cells, Pt.slots] at X10 l10 y10 z10 st10 hQ10
  subst l10 y10 z10
  obtain ⟨rfl, Nq10, e10⟩ := hQ10
  have N10 := Fr.app N9 Nq10
  obtain ⟨cq11, kq11, q11a, q11b, q11c⟩ := isOf hZ e10 Fq1_0
  obtain ⟨_, _, ⟨T11, L11, k11, n11⟩, -, X11, ⟨Lc11, hQ11, l11, y11, z11⟩, st11⟩ := X10.virtualBack hx (y := (⟨"com/example/tolc/tolc/ControllerSettings", "raiseFromError", "()D"⟩ : MethodName)) (z := (⟨"com/example/tolc/tolc/ControllerSettings", "raiseFromError", "()D"⟩ : MethodName)) hown (mvT hZ (hw _ (List.mem_of_getElem? (i := 111) rfl))) (mvT hZ (hw _ (List.mem_of_getElem? (i := 112) rfl))) (notFace_of_selects (args := #[]) (mvT hZ (hw _ (List.mem_of_getElem? (i := 114) rfl)))) (mvT hZ (hw _ (List.mem_of_getElem? (i := 114) rfl))) (mvT hZ (hw _ (List.mem_of_getElem? (i := 113) rfl))) (by decide) (backOf (W := 0) (rm_raiseFromError l Z a0 hw [] nb_1 13822447976325526323 T1.heap n0 (Nat.le_trans Z0 Kp1.1) Fq1_10) hZ (hw _ (List.mem_of_getElem? (i := 115) rfl)) (hw _ (List.mem_of_getElem? (i := 3) rfl)) (by decide) (by decide)) q11a q11c (g := (mkF m 212 #[.val (.int p0), .val (.double (FP.ddiv (FP.i2d p0) 4620693217682128896)), .second, .val (.ref nb_1), .val (.int (1 : Int32))] [(.ref nb_1)])) rfl (by rw [hml]; rfl) (Steps.refl _) (argsL := []) (rest := []) (lenOf pd_3 rfl) rfl (by show 2 * 0 + _ ≤ _; exact Nat.le_of_eq rfl) (hb hby at_212) (fun _ _ => ⟨rfl, e10, (by decide : 1 + 0 ≤ _), (by decide : 17 + 0 ≤ _)⟩)
  dsimp only [Pt.U, Pt.locs, Pt.cells, Pt.slots] at X11 l11 y11 z11 st11 hQ11
  subst l11 y11 z11
  obtain ⟨rfl, Nq11, e11⟩ := hQ11
  have N11 := Fr.app N10 Nq11
  obtain ⟨cq12, kq12, q12a, q12b, q12c⟩ := isOf hZ e11 Fq1_0
  obtain ⟨_, _, ⟨T12, L12, k12, n12⟩, -, X12, ⟨Lc12, hQ12, l12, y12, z12⟩, st12⟩ := X11.virtualBack hx (y := (⟨"com/example/tolc/tolc/ControllerSettings", "raiseStep", "()D"⟩ : MethodName)) (z := (⟨"com/example/tolc/tolc/ControllerSettings", "raiseStep", "()D"⟩ : MethodName)) hown (mvT hZ (hw _ (List.mem_of_getElem? (i := 116) rfl))) (mvT hZ (hw _ (List.mem_of_getElem? (i := 117) rfl))) (notFace_of_selects (args := #[]) (mvT hZ (hw _ (List.mem_of_getElem? (i := 119) rfl)))) (mvT hZ (hw _ (List.mem_of_getElem? (i := 119) rfl))) (mvT hZ (hw _ (List.mem_of_getElem? (i := 118) rfl))) (by decide) (backOf (W := 0) (rm_raiseStep l Z a0 hw [] nb_1 4621819117588971520 T1.heap n0 (Nat.le_trans Z0 Kp1.1) Fq1_11) hZ (hw _ (List.mem_of_getElem? (i := 120) rfl)) (hw _ (List.mem_of_getElem? (i := 3) rfl)) (by decide) (by decide)) q12a q12c (g := (mkF m 235 #[.val (.int p0), .val (.double (FP.ddiv (FP.i2d p0) 4620693217682128896)), .second, .val (.ref nb_1), .val (.int (1 : Int32))] [(.ref nb_1)])) rfl (by rw [hml]; rfl) (Steps.refl _) (argsL := []) (rest := []) (lenOf pd_3 rfl) rfl (by show 2 * 0 + _ ≤ _; exact Nat.le_of_eq rfl) (hb hby at_235) (fun _ _ => ⟨rfl, e11, (by decide : 1 + 0 ≤ _), (by decide : 17 + 0 ≤ _)⟩)
  dsimp only [Pt.U, Pt.locs, Pt.cells, Pt.slots] at X12 l12 y12 z12 st12 hQ12
  subst l12 y12 z12
  obtain ⟨rfl, Nq12, e12⟩ := hQ12
  have N12 := Fr.app N11 Nq12
  obtain ⟨cq13, kq13, q13a, q13b, q13c⟩ := isOf hZ e12 Fq1_0
  obtain ⟨_, _, ⟨T13, L13, k13, n13⟩, -, X13, ⟨Lc13, hQ13, l13, y13, z13⟩, st13⟩ := X12.virtualBack hx (y := (⟨"com/example/tolc/tolc/ControllerSettings", "minRatePerSecond", "()D"⟩ : MethodName)) (z := (⟨"com/example/tolc/tolc/ControllerSettings", "minRatePerSecond", "()D"⟩ : MethodName)) hown (mvT hZ (hw _ (List.mem_of_getElem? (i := 122) rfl))) (mvT hZ (hw _ (List.mem_of_getElem? (i := 123) rfl))) (notFace_of_selects (args := #[]) (mvT hZ (hw _ (List.mem_of_getElem? (i := 125) rfl)))) (mvT hZ (hw _ (List.mem_of_getElem? (i := 125) rfl))) (mvT hZ (hw _ (List.mem_of_getElem? (i := 124) rfl))) (by decide) (backOf (W := 0) (rm_minRatePerSecond l Z a0 hw [] nb_1 4607182418800017408 T1.heap n0 (Nat.le_trans Z0 Kp1.1) Fq1_12) hZ (hw _ (List.mem_of_getElem? (i := 126) rfl)) (hw _ (List.mem_of_getElem? (i := 3) rfl)) (by decide) (by decide)) q13a q13c (g := (mkF m 258 #[.val (.int p0), .val (.double (FP.ddiv (FP.i2d p0) 4620693217682128896)), .second, .val (.ref nb_1), .val (.int (1 : Int32))] [(.ref nb_1)])) rfl (by rw [hml]; rfl) (Steps.refl _) (argsL := []) (rest := []) (lenOf pd_3 rfl) rfl (by show 2 * 0 + _ ≤ _; exact Nat.le_of_eq rfl) (hb hby at_258) (fun _ _ => ⟨rfl, e12, (by decide : 1 + 0 ≤ _), (by decide : 17 + 0 ≤ _)⟩)
  dsimp only [Pt.U, Pt.locs, Pt.cells, Pt.slots] at X13 l13 y13 z13 st13 hQ13
  subst l13 y13 z13
  obtain ⟨rfl, Nq13, e13⟩ := hQ13
  have N13 := Fr.app N12 Nq13
  obtain ⟨cq14, kq14, q14a, q14b, q14c⟩ := isOf hZ e13 Fq1_0
  obtain ⟨_, _, ⟨T14, L14, k14, n14⟩, -, X14, ⟨Lc14, hQ14, l14, y14, z14⟩, st14⟩ := X13.virtualBack hx (y := (⟨"com/example/tolc/tolc/ControllerSettings", "maxRatePerSecond", "()D"⟩ : MethodName)) (z := (⟨"com/example/tolc/tolc/ControllerSettings", "maxRatePerSecond", "()D"⟩ : MethodName)) hown (mvT hZ (hw _ (List.mem_of_getElem? (i := 127) rfl))) (mvT hZ (hw _ (List.mem_of_getElem? (i := 128) rfl))) (notFace_of_selects (args := #[]) (mvT hZ (hw _ (List.mem_of_getElem? (i := 130) rfl)))) (mvT hZ (hw _ (List.mem_of_getElem? (i := 130) rfl))) (mvT hZ (hw _ (List.mem_of_getElem? (i := 129) rfl))) (by decide) (backOf (W := 0) (rm_maxRatePerSecond l Z a0 hw [] nb_1 4696837146684686336 T1.heap n0 (Nat.le_trans Z0 Kp1.1) Fq1_13) hZ (hw _ (List.mem_of_getElem? (i := 131) rfl)) (hw _ (List.mem_of_getElem? (i := 3) rfl)) (by decide) (by decide)) q14a q14c (g := (mkF m 279 #[.val (.int p0), .val (.double (FP.ddiv (FP.i2d p0) 4620693217682128896)), .second, .val (.ref nb_1), .val (.int (1 : Int32))] [(.ref nb_1)])) rfl (by rw [hml]; rfl) (Steps.refl _) (argsL := []) (rest := []) (lenOf pd_3 rfl) rfl (by show 2 * 0 + _ ≤ _; exact Nat.le_of_eq rfl) (hb hby at_279) (fun _ _ => ⟨rfl, e13, (by decide : 1 + 0 ≤ _), (by decide : 17 + 0 ≤ _)⟩)
  dsimp only [Pt.U, Pt.locs, Pt.cells, Pt.slots] at X14 l14 y14 z14 st14 hQ14
  subst l14 y14 z14
  obtain ⟨rfl, Nq14, e14⟩ := hQ14
  have N14 := Fr.app N13 Nq14
  obtain ⟨cq15, kq15, q15a, q15b, q15c⟩ := isOf hZ e14 Fq1_0
  obtain ⟨_, _, ⟨T15, L15, k15, n15⟩, -, X15, ⟨Lc15, hQ15, l15, y15, z15⟩, st15⟩ := X14.virtualBack hx (y := (⟨"com/example/tolc/tolc/ControllerSettings", "initialRatePerSecond", "()D"⟩ : MethodName)) (z := (⟨"com/example/tolc/tolc/ControllerSettings", "initialRatePerSecond", "()D"⟩ : MethodName)) hown (mvT hZ (hw _ (List.mem_of_getElem? (i := 133) rfl))) (mvT hZ (hw _ (List.mem_of_getElem? (i := 134) rfl))) (notFace_of_selects (args := #[]) (mvT hZ (hw _ (List.mem_of_getElem? (i := 136) rfl)))) (mvT hZ (hw _ (List.mem_of_getElem? (i := 136) rfl))) (mvT hZ (hw _ (List.mem_of_getElem? (i := 135) rfl))) (by decide) (backOf (W := 0) (rm_initialRatePerSecond l Z a0 hw [] nb_1 4636737291354636288 T1.heap n0 (Nat.le_trans Z0 Kp1.1) Fq1_14) hZ (hw _ (List.mem_of_getElem? (i := 137) rfl)) (hw _ (List.mem_of_getElem? (i := 3) rfl)) (by decide) (by decide)) q15a q15c (g := (mkF m 302 #[.val (.int p0), .val (.double (FP.ddiv (FP.i2d p0) 4620693217682128896)), .second, .val (.ref nb_1), .val (.int (1 : Int32))] [(.ref nb_1)])) rfl (by rw [hml]; rfl) (Steps.refl _) (argsL := []) (rest := []) (lenOf pd_3 rfl) rfl (by show 2 * 0 + _ ≤ _; exact Nat.le_of_eq rfl) (hb hby at_302) (fun _ _ => ⟨rfl, e14, (by decide : 1 + 0 ≤ _), (by decide : 17 + 0 ≤ _)⟩)
  dsimp only [Pt.U, Pt.locs, Pt.cells, Pt.slots] at X15 l15 y15 z15 st15 hQ15
  subst l15 y15 z15
  obtain ⟨rfl, Nq15, e15⟩ := hQ15
  have N15 := Fr.app N14 Nq15
  obtain ⟨cq16, kq16, q16a, q16b, q16c⟩ := isOf hZ e15 Fq1_0
  obtain ⟨_, _, ⟨T16, L16, k16, n16⟩, -, X16, ⟨Lc16, hQ16, l16, y16, z16⟩, st16⟩ := X15.virtualBack hx (y := (⟨"com/example/tolc/tolc/ControllerSettings", "demandReach", "()D"⟩ : MethodName)) (z := (⟨"com/example/tolc/tolc/ControllerSettings", "demandReach", "()D"⟩ : MethodName)) hown (mvT hZ (hw _ (List.mem_of_getElem? (i := 139) rfl))) (mvT hZ (hw _ (List.mem_of_getElem? (i := 140) rfl))) (notFace_of_selects (args := #[]) (mvT hZ (hw _ (List.mem_of_getElem? (i := 142) rfl)))) (mvT hZ (hw _ (List.mem_of_getElem? (i := 142) rfl))) (mvT hZ (hw _ (List.mem_of_getElem? (i := 141) rfl))) (by decide) (backOf (W := 0) (rm_demandReach l Z a0 hw [] nb_1 4611686018427387904 T1.heap n0 (Nat.le_trans Z0 Kp1.1) Fq1_15) hZ (hw _ (List.mem_of_getElem? (i := 143) rfl)) (hw _ (List.mem_of_getElem? (i := 3) rfl)) (by decide) (by decide)) q16a q16c (g := (mkF m 325 #[.val (.int p0), .val (.double (FP.ddiv (FP.i2d p0) 4620693217682128896)), .second, .val (.ref nb_1), .val (.int (1 : Int32))] [(.ref nb_1)])) rfl (by rw [hml]; rfl) (Steps.refl _) (argsL := []) (rest := []) (lenOf pd_3 rfl) rfl (by show 2 * 0 + _ ≤ _; exact Nat.le_of_eq rfl) (hb hby at_325) (fun _ _ => ⟨rfl, e15, (by decide : 1 + 0 ≤ _), (by decide : 17 + 0 ≤ _)⟩)
  dsimp only [Pt.U, Pt.locs, Pt.cells, Pt.slots] at X16 l16 y16 z16 st16 hQ16
  subst l16 y16 z16
  obtain ⟨rfl, Nq16, e16⟩ := hQ16
  have N16 := Fr.app N15 Nq16
  obtain ⟨cq17, kq17, q17a, q17b, q17c⟩ := isOf hZ e16 Fq1_0
  obtain ⟨_, _, ⟨T17, L17, k17, n17⟩, -, X17, ⟨Lc17, hQ17, l17, y17, z17⟩, st17⟩ := X16.virtualBack hx (y := (⟨"com/example/tolc/tolc/ControllerSettings", "lowerCutDivisor", "()D"⟩ : MethodName)) (z := (⟨"com/example/tolc/tolc/ControllerSettings", "lowerCutDivisor", "()D"⟩ : MethodName)) hown (mvT hZ (hw _ (List.mem_of_getElem? (i := 145) rfl))) (mvT hZ (hw _ (List.mem_of_getElem? (i := 146) rfl))) (notFace_of_selects (args := #[]) (mvT hZ (hw _ (List.mem_of_getElem? (i := 148) rfl)))) (mvT hZ (hw _ (List.mem_of_getElem? (i := 148) rfl))) (mvT hZ (hw _ (List.mem_of_getElem? (i := 147) rfl))) (by decide) (backOf (W := 0) (rm_lowerCutDivisor l Z a0 hw [] nb_1 4621819117588971520 T1.heap n0 (Nat.le_trans Z0 Kp1.1) Fq1_16) hZ (hw _ (List.mem_of_getElem? (i := 149) rfl)) (hw _ (List.mem_of_getElem? (i := 3) rfl)) (by decide) (by decide)) q17a q17c (g := (mkF m 348 #[.val (.int p0), .val (.double (FP.ddiv (FP.i2d p0) 4620693217682128896)), .second, .val (.ref nb_1), .val (.int (1 : Int32))] [(.ref nb_1)])) rfl (by rw [hml]; rfl) (Steps.refl _) (argsL := []) (rest := []) (lenOf pd_3 rfl) rfl (by show 2 * 0 + _ ≤ _; exact Nat.le_of_eq rfl) (hb hby at_348) (fun _ _ => ⟨rfl, e16, (by decide : 1 + 0 ≤ _), (by decide : 17 + 0 ≤ _)⟩)
  dsimp only [Pt.U, Pt.locs, Pt.cells, Pt.slots] at X17 l17 y17 z17 st17 hQ17
  subst l17 y17 z17
  obtain ⟨rfl, Nq17, e17⟩ := hQ17
  have N17 := Fr.app N16 Nq17
  obtain ⟨cq18, kq18, q18a, q18b, q18c⟩ := isOf hZ e17 Fq1_0
  obtain ⟨_, _, ⟨T18, L18, k18, n18⟩, -, X18, ⟨Lc18, hQ18, l18, y18, z18⟩, st18⟩ := X17.virtualBack hx (y := (⟨"com/example/tolc/tolc/ControllerSettings", "ownCutRuns", "()I"⟩ : MethodName)) (z := (⟨"com/example/tolc/tolc/ControllerSettings", "ownCutRuns", "()I"⟩ : MethodName)) hown (mvT hZ (hw _ (List.mem_of_getElem? (i := 150) rfl))) (mvT hZ (hw _ (List.mem_of_getElem? (i := 151) rfl))) (notFace_of_selects (args := #[]) (mvT hZ (hw _ (List.mem_of_getElem? (i := 153) rfl)))) (mvT hZ (hw _ (List.mem_of_getElem? (i := 153) rfl))) (mvT hZ (hw _ (List.mem_of_getElem? (i := 152) rfl))) (by decide) (backOf (W := 0) (rm_ownCutRuns l Z a0 hw [] nb_1 (20 : Int32) T1.heap n0 (Nat.le_trans Z0 Kp1.1) Fq1_17) hZ (hw _ (List.mem_of_getElem? (i := 154) rfl)) (hw _ (List.mem_of_getElem? (i := 3) rfl)) (by decide) (by decide)) q18a q18c (g := (mkF m 371 #[.val (.int p0), .val (.double (FP.ddiv (FP.i2d p0) 4620693217682128896)), .second, .val (.ref nb_1), .val (.int (1 : Int32))] [(.ref nb_1)])) rfl (by rw [hml]; rfl) (Steps.refl _) (argsL := []) (rest := []) (lenOf pd_4 rfl) rfl (by show 2 * 0 + _ ≤ _; exact Nat.le_of_eq rfl) (hb hby at_371) (fun _ _ => ⟨rfl, e17, (by decide : 1 + 0 ≤ _), (by decide : 17 + 0 ≤ _)⟩)
  dsimp only [Pt.U, Pt.locs, Pt.cells, Pt.slots] at X18 l18 y18 z18 st18 hQ18
  subst l18 y18 z18
  obtain ⟨rfl, Nq18, e18⟩ := hQ18
  have N18 := Fr.app N17 Nq18
  obtain ⟨fs, hr, hrun, hended, hW, hsame⟩ := X18.leave (v := some (.int (1 : Int32))) (fun h => by rw [Bd.returns] at h; cases h)
  refine ⟨_, _, pre0 _ ?_, hrun, hended, _, _, rfl, ?_, ⟨_, rfl⟩, hW, hsame.mono (by decide) (by decide)⟩
  · show Steps p.tables e below (s₁.setTop (mkF m 0 #[.val (.int p0), .unset, .unset, .unset, .unset] [])) _
    refine XS.iloadN X0.here hx rfl (hb hby at_0) rfl ?_
    show Steps p.tables e below (s₁.setTop (mkF m 1 #[.val (.int p0), .unset, .unset, .unset, .unset] [(.int p0)])) _
    refine XS.i2dS X0.here hx rfl (hb hby at_1) rfl rfl ?_
    show Steps p.tables e below (s₁.setTop (mkF m 2 #[.val (.int p0), .unset, .unset, .unset, .unset] [(.double (FP.i2d p0))])) _
    refine X0.ldc2DoubleC hx hown (mvT hZ (hw _ (List.mem_of_getElem? (i := 0) rfl))) (g := (mkF m 2 #[.val (.int p0), .unset, .unset, .unset, .unset] [(.double (FP.i2d p0))])) rfl (hb hby at_2) _ ?_
    show Steps p.tables e below (s₁.setTop (mkF m 5 #[.val (.int p0), .unset, .unset, .unset, .unset] [(.double 4620693217682128896), (.double (FP.i2d p0))])) _
    refine XS.ddivS X0.here hx rfl (hb hby at_5) rfl (own_nn p0) rfl ?_
    show Steps p.tables e below (s₁.setTop (mkF m 6 #[.val (.int p0), .unset, .unset, .unset, .unset] [(.double (FP.ddiv (FP.i2d p0) 4620693217682128896))])) _
    refine XS.dstoreN X0.here hx rfl (hb hby at_6) rfl (l' := #[.val (.int p0), .val (.double (FP.ddiv (FP.i2d p0) 4620693217682128896)), .second, .unset, .unset]) rfl ?_
    show Steps p.tables e below (s₁.setTop (mkF m 7 #[.val (.int p0), .val (.double (FP.ddiv (FP.i2d p0) 4620693217682128896)), .second, .unset, .unset] [])) _
    refine XS.dloadN X0.here hx rfl (hb hby at_7) rfl ?_
    show Steps p.tables e below (s₁.setTop (mkF m 8 #[.val (.int p0), .val (.double (FP.ddiv (FP.i2d p0) 4620693217682128896)), .second, .unset, .unset] [(.double (FP.ddiv (FP.i2d p0) 4620693217682128896))])) _
    refine st1 _ ?_
    show Steps p.tables e below (T1.setTop (mkF m 11 #[.val (.int p0), .val (.double (FP.ddiv (FP.i2d p0) 4620693217682128896)), .second, .unset, .unset] [(.ref nb_1)])) _
    refine XS.astoreN X1.here hx rfl (hb hby at_11) rfl rfl (l' := #[.val (.int p0), .val (.double (FP.ddiv (FP.i2d p0) 4620693217682128896)), .second, .val (.ref nb_1), .unset]) rfl ?_
    show Steps p.tables e below (T1.setTop (mkF m 12 #[.val (.int p0), .val (.double (FP.ddiv (FP.i2d p0) 4620693217682128896)), .second, .val (.ref nb_1), .unset] [])) _
    refine XS.aloadN X1.here hx rfl (hb hby at_12) rfl rfl ?_
    show Steps p.tables e below (T1.setTop (mkF m 13 #[.val (.int p0), .val (.double (FP.ddiv (FP.i2d p0) 4620693217682128896)), .second, .val (.ref nb_1), .unset] [(.ref nb_1)])) _
    refine st2.trans ?_
    show Steps p.tables e below (T2.setTop (mkF m 16 #[.val (.int p0), .val (.double (FP.ddiv (FP.i2d p0) 4620693217682128896)), .second, .val (.ref nb_1), .unset] [(.double (FP.ddiv (FP.i2d p0) 4620693217682128896))])) _
    refine XS.dloadN X2.here hx rfl (hb hby at_16) rfl ?_
    show Steps p.tables e below (T2.setTop (mkF m 17 #[.val (.int p0), .val (.double (FP.ddiv (FP.i2d p0) 4620693217682128896)), .second, .val (.ref nb_1), .unset] [(.double (FP.ddiv (FP.i2d p0) 4620693217682128896)), (.double (FP.ddiv (FP.i2d p0) 4620693217682128896))])) _
    refine XS.dcmpS X2.here hx rfl (hb hby at_17) rfl (v := (0 : Int32)) (dcmpV_self (own_nn p0) .l) ?_
    show Steps p.tables e below (T2.setTop (mkF m 18 #[.val (.int p0), .val (.double (FP.ddiv (FP.i2d p0) 4620693217682128896)), .second, .val (.ref nb_1), .unset] [(.int (0 : Int32))])) _
    refine XS.ifNo X2.here hx rfl (hb hby at_18) rfl ((if0 _ _).trans (teq (rfl : (0 : Int32) = (0 : Int32))).2) ?_
    show Steps p.tables e below (T2.setTop (mkF m 21 #[.val (.int p0), .val (.double (FP.ddiv (FP.i2d p0) 4620693217682128896)), .second, .val (.ref nb_1), .unset] [])) _
    refine XS.iconst X2.here hx rfl (hb hby at_21) ?_
    show Steps p.tables e below (T2.setTop (mkF m 22 #[.val (.int p0), .val (.double (FP.ddiv (FP.i2d p0) 4620693217682128896)), .second, .val (.ref nb_1), .unset] [(.int (1 : Int32))])) _
    refine XS.goto X2.here hx rfl (pc0 := 22) (pc' := 26) rfl (hb hby at_22) (by decide) (by decide) ?_
    show Steps p.tables e below (T2.setTop (mkF m 26 #[.val (.int p0), .val (.double (FP.ddiv (FP.i2d p0) 4620693217682128896)), .second, .val (.ref nb_1), .unset] [(.int (1 : Int32))])) _
    refine XS.istore X2.here hx rfl (hb hby at_26) rfl (l' := #[.val (.int p0), .val (.double (FP.ddiv (FP.i2d p0) 4620693217682128896)), .second, .val (.ref nb_1), .val (.int (1 : Int32))]) rfl ?_
    show Steps p.tables e below (T2.setTop (mkF m 28 #[.val (.int p0), .val (.double (FP.ddiv (FP.i2d p0) 4620693217682128896)), .second, .val (.ref nb_1), .val (.int (1 : Int32))] [])) _
    refine XS.iload X2.here hx rfl (hb hby at_28) rfl ?_
    show Steps p.tables e below (T2.setTop (mkF m 30 #[.val (.int p0), .val (.double (FP.ddiv (FP.i2d p0) 4620693217682128896)), .second, .val (.ref nb_1), .val (.int (1 : Int32))] [(.int (1 : Int32))])) _
    refine XS.ifNo X2.here hx rfl (hb hby at_30) rfl ((if0 _ _).trans (feq (by decide : ¬ ((1 : Int32) = (0 : Int32)))).1) ?_
    show Steps p.tables e below (T2.setTop (mkF m 33 #[.val (.int p0), .val (.double (FP.ddiv (FP.i2d p0) 4620693217682128896)), .second, .val (.ref nb_1), .val (.int (1 : Int32))] [])) _
    refine XS.aloadN X2.here hx rfl (hb hby at_33) rfl rfl ?_
    show Steps p.tables e below (T2.setTop (mkF m 34 #[.val (.int p0), .val (.double (FP.ddiv (FP.i2d p0) 4620693217682128896)), .second, .val (.ref nb_1), .val (.int (1 : Int32))] [(.ref nb_1)])) _
    refine st3.trans ?_
    show Steps p.tables e below (T3.setTop (mkF m 37 #[.val (.int p0), .val (.double (FP.ddiv (FP.i2d p0) 4620693217682128896)), .second, .val (.ref nb_1), .val (.int (1 : Int32))] [(.int (100 : Int32))])) _
    refine XS.bipush X3.here hx rfl (hb hby at_37) ?_
    show Steps p.tables e below (T3.setTop (mkF m 39 #[.val (.int p0), .val (.double (FP.ddiv (FP.i2d p0) 4620693217682128896)), .second, .val (.ref nb_1), .val (.int (1 : Int32))] [(.int (100 : Int32)), (.int (100 : Int32))])) _
    refine XS.icmpNo X3.here hx rfl (hb hby at_39) rfl (teq (rfl : (100 : Int32) = (100 : Int32))).2 ?_
    show Steps p.tables e below (T3.setTop (mkF m 42 #[.val (.int p0), .val (.double (FP.ddiv (FP.i2d p0) 4620693217682128896)), .second, .val (.ref nb_1), .val (.int (1 : Int32))] [])) _
    refine XS.iconst X3.here hx rfl (hb hby at_42) ?_
    show Steps p.tables e below (T3.setTop (mkF m 43 #[.val (.int p0), .val (.double (FP.ddiv (FP.i2d p0) 4620693217682128896)), .second, .val (.ref nb_1), .val (.int (1 : Int32))] [(.int (1 : Int32))])) _
    refine XS.goto X3.here hx rfl (pc0 := 43) (pc' := 47) rfl (hb hby at_43) (by decide) (by decide) ?_
    show Steps p.tables e below (T3.setTop (mkF m 47 #[.val (.int p0), .val (.double (FP.ddiv (FP.i2d p0) 4620693217682128896)), .second, .val (.ref nb_1), .val (.int (1 : Int32))] [(.int (1 : Int32))])) _
    refine XS.istore X3.here hx rfl (hb hby at_47) rfl (l' := #[.val (.int p0), .val (.double (FP.ddiv (FP.i2d p0) 4620693217682128896)), .second, .val (.ref nb_1), .val (.int (1 : Int32))]) rfl ?_
    show Steps p.tables e below (T3.setTop (mkF m 49 #[.val (.int p0), .val (.double (FP.ddiv (FP.i2d p0) 4620693217682128896)), .second, .val (.ref nb_1), .val (.int (1 : Int32))] [])) _
    refine XS.iload X3.here hx rfl (hb hby at_49) rfl ?_
    show Steps p.tables e below (T3.setTop (mkF m 51 #[.val (.int p0), .val (.double (FP.ddiv (FP.i2d p0) 4620693217682128896)), .second, .val (.ref nb_1), .val (.int (1 : Int32))] [(.int (1 : Int32))])) _
    refine XS.ifNo X3.here hx rfl (hb hby at_51) rfl ((if0 _ _).trans (feq (by decide : ¬ ((1 : Int32) = (0 : Int32)))).1) ?_
    show Steps p.tables e below (T3.setTop (mkF m 54 #[.val (.int p0), .val (.double (FP.ddiv (FP.i2d p0) 4620693217682128896)), .second, .val (.ref nb_1), .val (.int (1 : Int32))] [])) _
    refine XS.aloadN X3.here hx rfl (hb hby at_54) rfl rfl ?_
    show Steps p.tables e below (T3.setTop (mkF m 55 #[.val (.int p0), .val (.double (FP.ddiv (FP.i2d p0) 4620693217682128896)), .second, .val (.ref nb_1), .val (.int (1 : Int32))] [(.ref nb_1)])) _
    refine st4.trans ?_
    show Steps p.tables e below (T4.setTop (mkF m 58 #[.val (.int p0), .val (.double (FP.ddiv (FP.i2d p0) 4620693217682128896)), .second, .val (.ref nb_1), .val (.int (1 : Int32))] [(.long (1000 : Int64))])) _
    refine X4.ldc2Long hx hown (mvT hZ (hw _ (List.mem_of_getElem? (i := 76) rfl))) (g := (mkF m 58 #[.val (.int p0), .val (.double (FP.ddiv (FP.i2d p0) 4620693217682128896)), .second, .val (.ref nb_1), .val (.int (1 : Int32))] [(.long (1000 : Int64))])) rfl (hb hby at_58) _ ?_
    show Steps p.tables e below (T4.setTop (mkF m 61 #[.val (.int p0), .val (.double (FP.ddiv (FP.i2d p0) 4620693217682128896)), .second, .val (.ref nb_1), .val (.int (1 : Int32))] [(.long (1000 : Int64)), (.long (1000 : Int64))])) _
    refine XS.lcmp X4.here hx rfl (hb hby at_61) rfl ?_
    show Steps p.tables e below (T4.setTop (mkF m 62 #[.val (.int p0), .val (.double (FP.ddiv (FP.i2d p0) 4620693217682128896)), .second, .val (.ref nb_1), .val (.int (1 : Int32))] [(.int (lcmpW (1000 : Int64) (1000 : Int64)))])) _
    refine XS.ifNo X4.here hx rfl (hb hby at_62) rfl ((if0 _ _).trans (teq (by decide : (lcmpW (1000 : Int64) (1000 : Int64)) = (0 : Int32))).2) ?_
    show Steps p.tables e below (T4.setTop (mkF m 65 #[.val (.int p0), .val (.double (FP.ddiv (FP.i2d p0) 4620693217682128896)), .second, .val (.ref nb_1), .val (.int (1 : Int32))] [])) _
    refine XS.iconst X4.here hx rfl (hb hby at_65) ?_
    show Steps p.tables e below (T4.setTop (mkF m 66 #[.val (.int p0), .val (.double (FP.ddiv (FP.i2d p0) 4620693217682128896)), .second, .val (.ref nb_1), .val (.int (1 : Int32))] [(.int (1 : Int32))])) _
    refine XS.goto X4.here hx rfl (pc0 := 66) (pc' := 70) rfl (hb hby at_66) (by decide) (by decide) ?_
    show Steps p.tables e below (T4.setTop (mkF m 70 #[.val (.int p0), .val (.double (FP.ddiv (FP.i2d p0) 4620693217682128896)), .second, .val (.ref nb_1), .val (.int (1 : Int32))] [(.int (1 : Int32))])) _
    refine XS.istore X4.here hx rfl (hb hby at_70) rfl (l' := #[.val (.int p0), .val (.double (FP.ddiv (FP.i2d p0) 4620693217682128896)), .second, .val (.ref nb_1), .val (.int (1 : Int32))]) rfl ?_
    show Steps p.tables e below (T4.setTop (mkF m 72 #[.val (.int p0), .val (.double (FP.ddiv (FP.i2d p0) 4620693217682128896)), .second, .val (.ref nb_1), .val (.int (1 : Int32))] [])) _
    refine XS.iload X4.here hx rfl (hb hby at_72) rfl ?_
    show Steps p.tables e below (T4.setTop (mkF m 74 #[.val (.int p0), .val (.double (FP.ddiv (FP.i2d p0) 4620693217682128896)), .second, .val (.ref nb_1), .val (.int (1 : Int32))] [(.int (1 : Int32))])) _
    refine XS.ifNo X4.here hx rfl (hb hby at_74) rfl ((if0 _ _).trans (feq (by decide : ¬ ((1 : Int32) = (0 : Int32)))).1) ?_
    show Steps p.tables e below (T4.setTop (mkF m 77 #[.val (.int p0), .val (.double (FP.ddiv (FP.i2d p0) 4620693217682128896)), .second, .val (.ref nb_1), .val (.int (1 : Int32))] [])) _
    refine XS.aloadN X4.here hx rfl (hb hby at_77) rfl rfl ?_
    show Steps p.tables e below (T4.setTop (mkF m 78 #[.val (.int p0), .val (.double (FP.ddiv (FP.i2d p0) 4620693217682128896)), .second, .val (.ref nb_1), .val (.int (1 : Int32))] [(.ref nb_1)])) _
    refine st5.trans ?_
    show Steps p.tables e below (T5.setTop (mkF m 81 #[.val (.int p0), .val (.double (FP.ddiv (FP.i2d p0) 4620693217682128896)), .second, .val (.ref nb_1), .val (.int (1 : Int32))] [(.int (20 : Int32))])) _
    refine XS.bipush X5.here hx rfl (hb hby at_81) ?_
    show Steps p.tables e below (T5.setTop (mkF m 83 #[.val (.int p0), .val (.double (FP.ddiv (FP.i2d p0) 4620693217682128896)), .second, .val (.ref nb_1), .val (.int (1 : Int32))] [(.int (20 : Int32)), (.int (20 : Int32))])) _
    refine XS.icmpNo X5.here hx rfl (hb hby at_83) rfl (teq (rfl : (20 : Int32) = (20 : Int32))).2 ?_
    show Steps p.tables e below (T5.setTop (mkF m 86 #[.val (.int p0), .val (.double (FP.ddiv (FP.i2d p0) 4620693217682128896)), .second, .val (.ref nb_1), .val (.int (1 : Int32))] [])) _
    refine XS.iconst X5.here hx rfl (hb hby at_86) ?_
    show Steps p.tables e below (T5.setTop (mkF m 87 #[.val (.int p0), .val (.double (FP.ddiv (FP.i2d p0) 4620693217682128896)), .second, .val (.ref nb_1), .val (.int (1 : Int32))] [(.int (1 : Int32))])) _
    refine XS.goto X5.here hx rfl (pc0 := 87) (pc' := 91) rfl (hb hby at_87) (by decide) (by decide) ?_
    show Steps p.tables e below (T5.setTop (mkF m 91 #[.val (.int p0), .val (.double (FP.ddiv (FP.i2d p0) 4620693217682128896)), .second, .val (.ref nb_1), .val (.int (1 : Int32))] [(.int (1 : Int32))])) _
    refine XS.istore X5.here hx rfl (hb hby at_91) rfl (l' := #[.val (.int p0), .val (.double (FP.ddiv (FP.i2d p0) 4620693217682128896)), .second, .val (.ref nb_1), .val (.int (1 : Int32))]) rfl ?_
    show Steps p.tables e below (T5.setTop (mkF m 93 #[.val (.int p0), .val (.double (FP.ddiv (FP.i2d p0) 4620693217682128896)), .second, .val (.ref nb_1), .val (.int (1 : Int32))] [])) _
    refine XS.iload X5.here hx rfl (hb hby at_93) rfl ?_
    show Steps p.tables e below (T5.setTop (mkF m 95 #[.val (.int p0), .val (.double (FP.ddiv (FP.i2d p0) 4620693217682128896)), .second, .val (.ref nb_1), .val (.int (1 : Int32))] [(.int (1 : Int32))])) _
    refine XS.ifNo X5.here hx rfl (hb hby at_95) rfl ((if0 _ _).trans (feq (by decide : ¬ ((1 : Int32) = (0 : Int32)))).1) ?_
    show Steps p.tables e below (T5.setTop (mkF m 98 #[.val (.int p0), .val (.double (FP.ddiv (FP.i2d p0) 4620693217682128896)), .second, .val (.ref nb_1), .val (.int (1 : Int32))] [])) _
    refine XS.aloadN X5.here hx rfl (hb hby at_98) rfl rfl ?_
    show Steps p.tables e below (T5.setTop (mkF m 99 #[.val (.int p0), .val (.double (FP.ddiv (FP.i2d p0) 4620693217682128896)), .second, .val (.ref nb_1), .val (.int (1 : Int32))] [(.ref nb_1)])) _
    refine st6.trans ?_
    show Steps p.tables e below (T6.setTop (mkF m 102 #[.val (.int p0), .val (.double (FP.ddiv (FP.i2d p0) 4620693217682128896)), .second, .val (.ref nb_1), .val (.int (1 : Int32))] [(.double 4602678819172646912)])) _
    refine X6.ldc2DoubleC hx hown (mvT hZ (hw _ (List.mem_of_getElem? (i := 87) rfl))) (g := (mkF m 102 #[.val (.int p0), .val (.double (FP.ddiv (FP.i2d p0) 4620693217682128896)), .second, .val (.ref nb_1), .val (.int (1 : Int32))] [(.double 4602678819172646912)])) rfl (hb hby at_102) _ ?_
    show Steps p.tables e below (T6.setTop (mkF m 105 #[.val (.int p0), .val (.double (FP.ddiv (FP.i2d p0) 4620693217682128896)), .second, .val (.ref nb_1), .val (.int (1 : Int32))] [(.double 4602678819172646912), (.double 4602678819172646912)])) _
    refine XS.dcmpS X6.here hx rfl (hb hby at_105) rfl (v := (0 : Int32)) (by decide +kernel) ?_
    show Steps p.tables e below (T6.setTop (mkF m 106 #[.val (.int p0), .val (.double (FP.ddiv (FP.i2d p0) 4620693217682128896)), .second, .val (.ref nb_1), .val (.int (1 : Int32))] [(.int (0 : Int32))])) _
    refine XS.ifNo X6.here hx rfl (hb hby at_106) rfl ((if0 _ _).trans (teq (rfl : (0 : Int32) = (0 : Int32))).2) ?_
    show Steps p.tables e below (T6.setTop (mkF m 109 #[.val (.int p0), .val (.double (FP.ddiv (FP.i2d p0) 4620693217682128896)), .second, .val (.ref nb_1), .val (.int (1 : Int32))] [])) _
    refine XS.iconst X6.here hx rfl (hb hby at_109) ?_
    show Steps p.tables e below (T6.setTop (mkF m 110 #[.val (.int p0), .val (.double (FP.ddiv (FP.i2d p0) 4620693217682128896)), .second, .val (.ref nb_1), .val (.int (1 : Int32))] [(.int (1 : Int32))])) _
    refine XS.goto X6.here hx rfl (pc0 := 110) (pc' := 114) rfl (hb hby at_110) (by decide) (by decide) ?_
    show Steps p.tables e below (T6.setTop (mkF m 114 #[.val (.int p0), .val (.double (FP.ddiv (FP.i2d p0) 4620693217682128896)), .second, .val (.ref nb_1), .val (.int (1 : Int32))] [(.int (1 : Int32))])) _
    refine XS.istore X6.here hx rfl (hb hby at_114) rfl (l' := #[.val (.int p0), .val (.double (FP.ddiv (FP.i2d p0) 4620693217682128896)), .second, .val (.ref nb_1), .val (.int (1 : Int32))]) rfl ?_
    show Steps p.tables e below (T6.setTop (mkF m 116 #[.val (.int p0), .val (.double (FP.ddiv (FP.i2d p0) 4620693217682128896)), .second, .val (.ref nb_1), .val (.int (1 : Int32))] [])) _
    refine XS.iload X6.here hx rfl (hb hby at_116) rfl ?_
    show Steps p.tables e below (T6.setTop (mkF m 118 #[.val (.int p0), .val (.double (FP.ddiv (FP.i2d p0) 4620693217682128896)), .second, .val (.ref nb_1), .val (.int (1 : Int32))] [(.int (1 : Int32))])) _
    refine XS.ifNo X6.here hx rfl (hb hby at_118) rfl ((if0 _ _).trans (feq (by decide : ¬ ((1 : Int32) = (0 : Int32)))).1) ?_
    show Steps p.tables e below (T6.setTop (mkF m 121 #[.val (.int p0), .val (.double (FP.ddiv (FP.i2d p0) 4620693217682128896)), .second, .val (.ref nb_1), .val (.int (1 : Int32))] [])) _
    refine XS.aloadN X6.here hx rfl (hb hby at_121) rfl rfl ?_
    show Steps p.tables e below (T6.setTop (mkF m 122 #[.val (.int p0), .val (.double (FP.ddiv (FP.i2d p0) 4620693217682128896)), .second, .val (.ref nb_1), .val (.int (1 : Int32))] [(.ref nb_1)])) _
    refine st7.trans ?_
    show Steps p.tables e below (T7.setTop (mkF m 125 #[.val (.int p0), .val (.double (FP.ddiv (FP.i2d p0) 4620693217682128896)), .second, .val (.ref nb_1), .val (.int (1 : Int32))] [(.double 4605380978949069210)])) _
    refine X7.ldc2DoubleC hx hown (mvT hZ (hw _ (List.mem_of_getElem? (i := 93) rfl))) (g := (mkF m 125 #[.val (.int p0), .val (.double (FP.ddiv (FP.i2d p0) 4620693217682128896)), .second, .val (.ref nb_1), .val (.int (1 : Int32))] [(.double 4605380978949069210)])) rfl (hb hby at_125) _ ?_
    show Steps p.tables e below (T7.setTop (mkF m 128 #[.val (.int p0), .val (.double (FP.ddiv (FP.i2d p0) 4620693217682128896)), .second, .val (.ref nb_1), .val (.int (1 : Int32))] [(.double 4605380978949069210), (.double 4605380978949069210)])) _
    refine XS.dcmpS X7.here hx rfl (hb hby at_128) rfl (v := (0 : Int32)) (by decide +kernel) ?_
    show Steps p.tables e below (T7.setTop (mkF m 129 #[.val (.int p0), .val (.double (FP.ddiv (FP.i2d p0) 4620693217682128896)), .second, .val (.ref nb_1), .val (.int (1 : Int32))] [(.int (0 : Int32))])) _
    refine XS.ifNo X7.here hx rfl (hb hby at_129) rfl ((if0 _ _).trans (teq (rfl : (0 : Int32) = (0 : Int32))).2) ?_
    show Steps p.tables e below (T7.setTop (mkF m 132 #[.val (.int p0), .val (.double (FP.ddiv (FP.i2d p0) 4620693217682128896)), .second, .val (.ref nb_1), .val (.int (1 : Int32))] [])) _
    refine XS.iconst X7.here hx rfl (hb hby at_132) ?_
    show Steps p.tables e below (T7.setTop (mkF m 133 #[.val (.int p0), .val (.double (FP.ddiv (FP.i2d p0) 4620693217682128896)), .second, .val (.ref nb_1), .val (.int (1 : Int32))] [(.int (1 : Int32))])) _
    refine XS.goto X7.here hx rfl (pc0 := 133) (pc' := 137) rfl (hb hby at_133) (by decide) (by decide) ?_
    show Steps p.tables e below (T7.setTop (mkF m 137 #[.val (.int p0), .val (.double (FP.ddiv (FP.i2d p0) 4620693217682128896)), .second, .val (.ref nb_1), .val (.int (1 : Int32))] [(.int (1 : Int32))])) _
    refine XS.istore X7.here hx rfl (hb hby at_137) rfl (l' := #[.val (.int p0), .val (.double (FP.ddiv (FP.i2d p0) 4620693217682128896)), .second, .val (.ref nb_1), .val (.int (1 : Int32))]) rfl ?_
    show Steps p.tables e below (T7.setTop (mkF m 139 #[.val (.int p0), .val (.double (FP.ddiv (FP.i2d p0) 4620693217682128896)), .second, .val (.ref nb_1), .val (.int (1 : Int32))] [])) _
    refine XS.iload X7.here hx rfl (hb hby at_139) rfl ?_
    show Steps p.tables e below (T7.setTop (mkF m 141 #[.val (.int p0), .val (.double (FP.ddiv (FP.i2d p0) 4620693217682128896)), .second, .val (.ref nb_1), .val (.int (1 : Int32))] [(.int (1 : Int32))])) _
    refine XS.ifNo X7.here hx rfl (hb hby at_141) rfl ((if0 _ _).trans (feq (by decide : ¬ ((1 : Int32) = (0 : Int32)))).1) ?_
    show Steps p.tables e below (T7.setTop (mkF m 144 #[.val (.int p0), .val (.double (FP.ddiv (FP.i2d p0) 4620693217682128896)), .second, .val (.ref nb_1), .val (.int (1 : Int32))] [])) _
    refine XS.aloadN X7.here hx rfl (hb hby at_144) rfl rfl ?_
    show Steps p.tables e below (T7.setTop (mkF m 145 #[.val (.int p0), .val (.double (FP.ddiv (FP.i2d p0) 4620693217682128896)), .second, .val (.ref nb_1), .val (.int (1 : Int32))] [(.ref nb_1)])) _
    refine st8.trans ?_
    show Steps p.tables e below (T8.setTop (mkF m 148 #[.val (.int p0), .val (.double (FP.ddiv (FP.i2d p0) 4620693217682128896)), .second, .val (.ref nb_1), .val (.int (1 : Int32))] [(.double 0)])) _
    refine XS.dconst0 X8.here hx rfl (hb hby at_148) (v := 0) rfl ?_
    show Steps p.tables e below (T8.setTop (mkF m 149 #[.val (.int p0), .val (.double (FP.ddiv (FP.i2d p0) 4620693217682128896)), .second, .val (.ref nb_1), .val (.int (1 : Int32))] [(.double 0), (.double 0)])) _
    refine XS.dcmpS X8.here hx rfl (hb hby at_149) rfl (v := (0 : Int32)) (by decide +kernel) ?_
    show Steps p.tables e below (T8.setTop (mkF m 150 #[.val (.int p0), .val (.double (FP.ddiv (FP.i2d p0) 4620693217682128896)), .second, .val (.ref nb_1), .val (.int (1 : Int32))] [(.int (0 : Int32))])) _
    refine XS.ifNo X8.here hx rfl (hb hby at_150) rfl ((if0 _ _).trans (teq (rfl : (0 : Int32) = (0 : Int32))).2) ?_
    show Steps p.tables e below (T8.setTop (mkF m 153 #[.val (.int p0), .val (.double (FP.ddiv (FP.i2d p0) 4620693217682128896)), .second, .val (.ref nb_1), .val (.int (1 : Int32))] [])) _
    refine XS.iconst X8.here hx rfl (hb hby at_153) ?_
    show Steps p.tables e below (T8.setTop (mkF m 154 #[.val (.int p0), .val (.double (FP.ddiv (FP.i2d p0) 4620693217682128896)), .second, .val (.ref nb_1), .val (.int (1 : Int32))] [(.int (1 : Int32))])) _
    refine XS.goto X8.here hx rfl (pc0 := 154) (pc' := 158) rfl (hb hby at_154) (by decide) (by decide) ?_
    show Steps p.tables e below (T8.setTop (mkF m 158 #[.val (.int p0), .val (.double (FP.ddiv (FP.i2d p0) 4620693217682128896)), .second, .val (.ref nb_1), .val (.int (1 : Int32))] [(.int (1 : Int32))])) _
    refine XS.istore X8.here hx rfl (hb hby at_158) rfl (l' := #[.val (.int p0), .val (.double (FP.ddiv (FP.i2d p0) 4620693217682128896)), .second, .val (.ref nb_1), .val (.int (1 : Int32))]) rfl ?_
    show Steps p.tables e below (T8.setTop (mkF m 160 #[.val (.int p0), .val (.double (FP.ddiv (FP.i2d p0) 4620693217682128896)), .second, .val (.ref nb_1), .val (.int (1 : Int32))] [])) _
    refine XS.iload X8.here hx rfl (hb hby at_160) rfl ?_
    show Steps p.tables e below (T8.setTop (mkF m 162 #[.val (.int p0), .val (.double (FP.ddiv (FP.i2d p0) 4620693217682128896)), .second, .val (.ref nb_1), .val (.int (1 : Int32))] [(.int (1 : Int32))])) _
    refine XS.ifNo X8.here hx rfl (hb hby at_162) rfl ((if0 _ _).trans (feq (by decide : ¬ ((1 : Int32) = (0 : Int32)))).1) ?_
    show Steps p.tables e below (T8.setTop (mkF m 165 #[.val (.int p0), .val (.double (FP.ddiv (FP.i2d p0) 4620693217682128896)), .second, .val (.ref nb_1), .val (.int (1 : Int32))] [])) _
    refine XS.aloadN X8.here hx rfl (hb hby at_165) rfl rfl ?_
    show Steps p.tables e below (T8.setTop (mkF m 166 #[.val (.int p0), .val (.double (FP.ddiv (FP.i2d p0) 4620693217682128896)), .second, .val (.ref nb_1), .val (.int (1 : Int32))] [(.ref nb_1)])) _
    refine st9.trans ?_
    show Steps p.tables e below (T9.setTop (mkF m 169 #[.val (.int p0), .val (.double (FP.ddiv (FP.i2d p0) 4620693217682128896)), .second, .val (.ref nb_1), .val (.int (1 : Int32))] [(.double 4608083138725491507)])) _
    refine X9.ldc2DoubleC hx hown (mvT hZ (hw _ (List.mem_of_getElem? (i := 104) rfl))) (g := (mkF m 169 #[.val (.int p0), .val (.double (FP.ddiv (FP.i2d p0) 4620693217682128896)), .second, .val (.ref nb_1), .val (.int (1 : Int32))] [(.double 4608083138725491507)])) rfl (hb hby at_169) _ ?_
    show Steps p.tables e below (T9.setTop (mkF m 172 #[.val (.int p0), .val (.double (FP.ddiv (FP.i2d p0) 4620693217682128896)), .second, .val (.ref nb_1), .val (.int (1 : Int32))] [(.double 4608083138725491507), (.double 4608083138725491507)])) _
    refine XS.dcmpS X9.here hx rfl (hb hby at_172) rfl (v := (0 : Int32)) (by decide +kernel) ?_
    show Steps p.tables e below (T9.setTop (mkF m 173 #[.val (.int p0), .val (.double (FP.ddiv (FP.i2d p0) 4620693217682128896)), .second, .val (.ref nb_1), .val (.int (1 : Int32))] [(.int (0 : Int32))])) _
    refine XS.ifNo X9.here hx rfl (hb hby at_173) rfl ((if0 _ _).trans (teq (rfl : (0 : Int32) = (0 : Int32))).2) ?_
    show Steps p.tables e below (T9.setTop (mkF m 176 #[.val (.int p0), .val (.double (FP.ddiv (FP.i2d p0) 4620693217682128896)), .second, .val (.ref nb_1), .val (.int (1 : Int32))] [])) _
    refine XS.iconst X9.here hx rfl (hb hby at_176) ?_
    show Steps p.tables e below (T9.setTop (mkF m 177 #[.val (.int p0), .val (.double (FP.ddiv (FP.i2d p0) 4620693217682128896)), .second, .val (.ref nb_1), .val (.int (1 : Int32))] [(.int (1 : Int32))])) _
    refine XS.goto X9.here hx rfl (pc0 := 177) (pc' := 181) rfl (hb hby at_177) (by decide) (by decide) ?_
    show Steps p.tables e below (T9.setTop (mkF m 181 #[.val (.int p0), .val (.double (FP.ddiv (FP.i2d p0) 4620693217682128896)), .second, .val (.ref nb_1), .val (.int (1 : Int32))] [(.int (1 : Int32))])) _
    refine XS.istore X9.here hx rfl (hb hby at_181) rfl (l' := #[.val (.int p0), .val (.double (FP.ddiv (FP.i2d p0) 4620693217682128896)), .second, .val (.ref nb_1), .val (.int (1 : Int32))]) rfl ?_
    show Steps p.tables e below (T9.setTop (mkF m 183 #[.val (.int p0), .val (.double (FP.ddiv (FP.i2d p0) 4620693217682128896)), .second, .val (.ref nb_1), .val (.int (1 : Int32))] [])) _
    refine XS.iload X9.here hx rfl (hb hby at_183) rfl ?_
    show Steps p.tables e below (T9.setTop (mkF m 185 #[.val (.int p0), .val (.double (FP.ddiv (FP.i2d p0) 4620693217682128896)), .second, .val (.ref nb_1), .val (.int (1 : Int32))] [(.int (1 : Int32))])) _
    refine XS.ifNo X9.here hx rfl (hb hby at_185) rfl ((if0 _ _).trans (feq (by decide : ¬ ((1 : Int32) = (0 : Int32)))).1) ?_
    show Steps p.tables e below (T9.setTop (mkF m 188 #[.val (.int p0), .val (.double (FP.ddiv (FP.i2d p0) 4620693217682128896)), .second, .val (.ref nb_1), .val (.int (1 : Int32))] [])) _
    refine XS.aloadN X9.here hx rfl (hb hby at_188) rfl rfl ?_
    show Steps p.tables e below (T9.setTop (mkF m 189 #[.val (.int p0), .val (.double (FP.ddiv (FP.i2d p0) 4620693217682128896)), .second, .val (.ref nb_1), .val (.int (1 : Int32))] [(.ref nb_1)])) _
    refine st10.trans ?_
    show Steps p.tables e below (T10.setTop (mkF m 192 #[.val (.int p0), .val (.double (FP.ddiv (FP.i2d p0) 4620693217682128896)), .second, .val (.ref nb_1), .val (.int (1 : Int32))] [(.double 13822447976325526323)])) _
    refine X10.ldc2DoubleC hx hown (mvT hZ (hw _ (List.mem_of_getElem? (i := 110) rfl))) (g := (mkF m 192 #[.val (.int p0), .val (.double (FP.ddiv (FP.i2d p0) 4620693217682128896)), .second, .val (.ref nb_1), .val (.int (1 : Int32))] [(.double 13822447976325526323)])) rfl (hb hby at_192) _ ?_
    show Steps p.tables e below (T10.setTop (mkF m 195 #[.val (.int p0), .val (.double (FP.ddiv (FP.i2d p0) 4620693217682128896)), .second, .val (.ref nb_1), .val (.int (1 : Int32))] [(.double 13822447976325526323), (.double 13822447976325526323)])) _
    refine XS.dcmpS X10.here hx rfl (hb hby at_195) rfl (v := (0 : Int32)) (by decide +kernel) ?_
    show Steps p.tables e below (T10.setTop (mkF m 196 #[.val (.int p0), .val (.double (FP.ddiv (FP.i2d p0) 4620693217682128896)), .second, .val (.ref nb_1), .val (.int (1 : Int32))] [(.int (0 : Int32))])) _
    refine XS.ifNo X10.here hx rfl (hb hby at_196) rfl ((if0 _ _).trans (teq (rfl : (0 : Int32) = (0 : Int32))).2) ?_
    show Steps p.tables e below (T10.setTop (mkF m 199 #[.val (.int p0), .val (.double (FP.ddiv (FP.i2d p0) 4620693217682128896)), .second, .val (.ref nb_1), .val (.int (1 : Int32))] [])) _
    refine XS.iconst X10.here hx rfl (hb hby at_199) ?_
    show Steps p.tables e below (T10.setTop (mkF m 200 #[.val (.int p0), .val (.double (FP.ddiv (FP.i2d p0) 4620693217682128896)), .second, .val (.ref nb_1), .val (.int (1 : Int32))] [(.int (1 : Int32))])) _
    refine XS.goto X10.here hx rfl (pc0 := 200) (pc' := 204) rfl (hb hby at_200) (by decide) (by decide) ?_
    show Steps p.tables e below (T10.setTop (mkF m 204 #[.val (.int p0), .val (.double (FP.ddiv (FP.i2d p0) 4620693217682128896)), .second, .val (.ref nb_1), .val (.int (1 : Int32))] [(.int (1 : Int32))])) _
    refine XS.istore X10.here hx rfl (hb hby at_204) rfl (l' := #[.val (.int p0), .val (.double (FP.ddiv (FP.i2d p0) 4620693217682128896)), .second, .val (.ref nb_1), .val (.int (1 : Int32))]) rfl ?_
    show Steps p.tables e below (T10.setTop (mkF m 206 #[.val (.int p0), .val (.double (FP.ddiv (FP.i2d p0) 4620693217682128896)), .second, .val (.ref nb_1), .val (.int (1 : Int32))] [])) _
    refine XS.iload X10.here hx rfl (hb hby at_206) rfl ?_
    show Steps p.tables e below (T10.setTop (mkF m 208 #[.val (.int p0), .val (.double (FP.ddiv (FP.i2d p0) 4620693217682128896)), .second, .val (.ref nb_1), .val (.int (1 : Int32))] [(.int (1 : Int32))])) _
    refine XS.ifNo X10.here hx rfl (hb hby at_208) rfl ((if0 _ _).trans (feq (by decide : ¬ ((1 : Int32) = (0 : Int32)))).1) ?_
    show Steps p.tables e below (T10.setTop (mkF m 211 #[.val (.int p0), .val (.double (FP.ddiv (FP.i2d p0) 4620693217682128896)), .second, .val (.ref nb_1), .val (.int (1 : Int32))] [])) _
    refine XS.aloadN X10.here hx rfl (hb hby at_211) rfl rfl ?_
    show Steps p.tables e below (T10.setTop (mkF m 212 #[.val (.int p0), .val (.double (FP.ddiv (FP.i2d p0) 4620693217682128896)), .second, .val (.ref nb_1), .val (.int (1 : Int32))] [(.ref nb_1)])) _
    refine st11.trans ?_
    show Steps p.tables e below (T11.setTop (mkF m 215 #[.val (.int p0), .val (.double (FP.ddiv (FP.i2d p0) 4620693217682128896)), .second, .val (.ref nb_1), .val (.int (1 : Int32))] [(.double 13822447976325526323)])) _
    refine X11.ldc2DoubleC hx hown (mvT hZ (hw _ (List.mem_of_getElem? (i := 110) rfl))) (g := (mkF m 215 #[.val (.int p0), .val (.double (FP.ddiv (FP.i2d p0) 4620693217682128896)), .second, .val (.ref nb_1), .val (.int (1 : Int32))] [(.double 13822447976325526323)])) rfl (hb hby at_215) _ ?_
    show Steps p.tables e below (T11.setTop (mkF m 218 #[.val (.int p0), .val (.double (FP.ddiv (FP.i2d p0) 4620693217682128896)), .second, .val (.ref nb_1), .val (.int (1 : Int32))] [(.double 13822447976325526323), (.double 13822447976325526323)])) _
    refine XS.dcmpS X11.here hx rfl (hb hby at_218) rfl (v := (0 : Int32)) (by decide +kernel) ?_
    show Steps p.tables e below (T11.setTop (mkF m 219 #[.val (.int p0), .val (.double (FP.ddiv (FP.i2d p0) 4620693217682128896)), .second, .val (.ref nb_1), .val (.int (1 : Int32))] [(.int (0 : Int32))])) _
    refine XS.ifNo X11.here hx rfl (hb hby at_219) rfl ((if0 _ _).trans (teq (rfl : (0 : Int32) = (0 : Int32))).2) ?_
    show Steps p.tables e below (T11.setTop (mkF m 222 #[.val (.int p0), .val (.double (FP.ddiv (FP.i2d p0) 4620693217682128896)), .second, .val (.ref nb_1), .val (.int (1 : Int32))] [])) _
    refine XS.iconst X11.here hx rfl (hb hby at_222) ?_
    show Steps p.tables e below (T11.setTop (mkF m 223 #[.val (.int p0), .val (.double (FP.ddiv (FP.i2d p0) 4620693217682128896)), .second, .val (.ref nb_1), .val (.int (1 : Int32))] [(.int (1 : Int32))])) _
    refine XS.goto X11.here hx rfl (pc0 := 223) (pc' := 227) rfl (hb hby at_223) (by decide) (by decide) ?_
    show Steps p.tables e below (T11.setTop (mkF m 227 #[.val (.int p0), .val (.double (FP.ddiv (FP.i2d p0) 4620693217682128896)), .second, .val (.ref nb_1), .val (.int (1 : Int32))] [(.int (1 : Int32))])) _
    refine XS.istore X11.here hx rfl (hb hby at_227) rfl (l' := #[.val (.int p0), .val (.double (FP.ddiv (FP.i2d p0) 4620693217682128896)), .second, .val (.ref nb_1), .val (.int (1 : Int32))]) rfl ?_
    show Steps p.tables e below (T11.setTop (mkF m 229 #[.val (.int p0), .val (.double (FP.ddiv (FP.i2d p0) 4620693217682128896)), .second, .val (.ref nb_1), .val (.int (1 : Int32))] [])) _
    refine XS.iload X11.here hx rfl (hb hby at_229) rfl ?_
    show Steps p.tables e below (T11.setTop (mkF m 231 #[.val (.int p0), .val (.double (FP.ddiv (FP.i2d p0) 4620693217682128896)), .second, .val (.ref nb_1), .val (.int (1 : Int32))] [(.int (1 : Int32))])) _
    refine XS.ifNo X11.here hx rfl (hb hby at_231) rfl ((if0 _ _).trans (feq (by decide : ¬ ((1 : Int32) = (0 : Int32)))).1) ?_
    show Steps p.tables e below (T11.setTop (mkF m 234 #[.val (.int p0), .val (.double (FP.ddiv (FP.i2d p0) 4620693217682128896)), .second, .val (.ref nb_1), .val (.int (1 : Int32))] [])) _
    refine XS.aloadN X11.here hx rfl (hb hby at_234) rfl rfl ?_
    show Steps p.tables e below (T11.setTop (mkF m 235 #[.val (.int p0), .val (.double (FP.ddiv (FP.i2d p0) 4620693217682128896)), .second, .val (.ref nb_1), .val (.int (1 : Int32))] [(.ref nb_1)])) _
    refine st12.trans ?_
    show Steps p.tables e below (T12.setTop (mkF m 238 #[.val (.int p0), .val (.double (FP.ddiv (FP.i2d p0) 4620693217682128896)), .second, .val (.ref nb_1), .val (.int (1 : Int32))] [(.double 4621819117588971520)])) _
    refine X12.ldc2DoubleC hx hown (mvT hZ (hw _ (List.mem_of_getElem? (i := 121) rfl))) (g := (mkF m 238 #[.val (.int p0), .val (.double (FP.ddiv (FP.i2d p0) 4620693217682128896)), .second, .val (.ref nb_1), .val (.int (1 : Int32))] [(.double 4621819117588971520)])) rfl (hb hby at_238) _ ?_
    show Steps p.tables e below (T12.setTop (mkF m 241 #[.val (.int p0), .val (.double (FP.ddiv (FP.i2d p0) 4620693217682128896)), .second, .val (.ref nb_1), .val (.int (1 : Int32))] [(.double 4621819117588971520), (.double 4621819117588971520)])) _
    refine XS.dcmpS X12.here hx rfl (hb hby at_241) rfl (v := (0 : Int32)) (by decide +kernel) ?_
    show Steps p.tables e below (T12.setTop (mkF m 242 #[.val (.int p0), .val (.double (FP.ddiv (FP.i2d p0) 4620693217682128896)), .second, .val (.ref nb_1), .val (.int (1 : Int32))] [(.int (0 : Int32))])) _
    refine XS.ifNo X12.here hx rfl (hb hby at_242) rfl ((if0 _ _).trans (teq (rfl : (0 : Int32) = (0 : Int32))).2) ?_
    show Steps p.tables e below (T12.setTop (mkF m 245 #[.val (.int p0), .val (.double (FP.ddiv (FP.i2d p0) 4620693217682128896)), .second, .val (.ref nb_1), .val (.int (1 : Int32))] [])) _
    refine XS.iconst X12.here hx rfl (hb hby at_245) ?_
    show Steps p.tables e below (T12.setTop (mkF m 246 #[.val (.int p0), .val (.double (FP.ddiv (FP.i2d p0) 4620693217682128896)), .second, .val (.ref nb_1), .val (.int (1 : Int32))] [(.int (1 : Int32))])) _
    refine XS.goto X12.here hx rfl (pc0 := 246) (pc' := 250) rfl (hb hby at_246) (by decide) (by decide) ?_
    show Steps p.tables e below (T12.setTop (mkF m 250 #[.val (.int p0), .val (.double (FP.ddiv (FP.i2d p0) 4620693217682128896)), .second, .val (.ref nb_1), .val (.int (1 : Int32))] [(.int (1 : Int32))])) _
    refine XS.istore X12.here hx rfl (hb hby at_250) rfl (l' := #[.val (.int p0), .val (.double (FP.ddiv (FP.i2d p0) 4620693217682128896)), .second, .val (.ref nb_1), .val (.int (1 : Int32))]) rfl ?_
    show Steps p.tables e below (T12.setTop (mkF m 252 #[.val (.int p0), .val (.double (FP.ddiv (FP.i2d p0) 4620693217682128896)), .second, .val (.ref nb_1), .val (.int (1 : Int32))] [])) _
    refine XS.iload X12.here hx rfl (hb hby at_252) rfl ?_
    show Steps p.tables e below (T12.setTop (mkF m 254 #[.val (.int p0), .val (.double (FP.ddiv (FP.i2d p0) 4620693217682128896)), .second, .val (.ref nb_1), .val (.int (1 : Int32))] [(.int (1 : Int32))])) _
    refine XS.ifNo X12.here hx rfl (hb hby at_254) rfl ((if0 _ _).trans (feq (by decide : ¬ ((1 : Int32) = (0 : Int32)))).1) ?_
    show Steps p.tables e below (T12.setTop (mkF m 257 #[.val (.int p0), .val (.double (FP.ddiv (FP.i2d p0) 4620693217682128896)), .second, .val (.ref nb_1), .val (.int (1 : Int32))] [])) _
    refine XS.aloadN X12.here hx rfl (hb hby at_257) rfl rfl ?_
    show Steps p.tables e below (T12.setTop (mkF m 258 #[.val (.int p0), .val (.double (FP.ddiv (FP.i2d p0) 4620693217682128896)), .second, .val (.ref nb_1), .val (.int (1 : Int32))] [(.ref nb_1)])) _
    refine st13.trans ?_
    show Steps p.tables e below (T13.setTop (mkF m 261 #[.val (.int p0), .val (.double (FP.ddiv (FP.i2d p0) 4620693217682128896)), .second, .val (.ref nb_1), .val (.int (1 : Int32))] [(.double 4607182418800017408)])) _
    refine XS.dconst1 X13.here hx rfl (hb hby at_261) (v := 4607182418800017408) rfl ?_
    show Steps p.tables e below (T13.setTop (mkF m 262 #[.val (.int p0), .val (.double (FP.ddiv (FP.i2d p0) 4620693217682128896)), .second, .val (.ref nb_1), .val (.int (1 : Int32))] [(.double 4607182418800017408), (.double 4607182418800017408)])) _
    refine XS.dcmpS X13.here hx rfl (hb hby at_262) rfl (v := (0 : Int32)) (by decide +kernel) ?_
    show Steps p.tables e below (T13.setTop (mkF m 263 #[.val (.int p0), .val (.double (FP.ddiv (FP.i2d p0) 4620693217682128896)), .second, .val (.ref nb_1), .val (.int (1 : Int32))] [(.int (0 : Int32))])) _
    refine XS.ifNo X13.here hx rfl (hb hby at_263) rfl ((if0 _ _).trans (teq (rfl : (0 : Int32) = (0 : Int32))).2) ?_
    show Steps p.tables e below (T13.setTop (mkF m 266 #[.val (.int p0), .val (.double (FP.ddiv (FP.i2d p0) 4620693217682128896)), .second, .val (.ref nb_1), .val (.int (1 : Int32))] [])) _
    refine XS.iconst X13.here hx rfl (hb hby at_266) ?_
    show Steps p.tables e below (T13.setTop (mkF m 267 #[.val (.int p0), .val (.double (FP.ddiv (FP.i2d p0) 4620693217682128896)), .second, .val (.ref nb_1), .val (.int (1 : Int32))] [(.int (1 : Int32))])) _
    refine XS.goto X13.here hx rfl (pc0 := 267) (pc' := 271) rfl (hb hby at_267) (by decide) (by decide) ?_
    show Steps p.tables e below (T13.setTop (mkF m 271 #[.val (.int p0), .val (.double (FP.ddiv (FP.i2d p0) 4620693217682128896)), .second, .val (.ref nb_1), .val (.int (1 : Int32))] [(.int (1 : Int32))])) _
    refine XS.istore X13.here hx rfl (hb hby at_271) rfl (l' := #[.val (.int p0), .val (.double (FP.ddiv (FP.i2d p0) 4620693217682128896)), .second, .val (.ref nb_1), .val (.int (1 : Int32))]) rfl ?_
    show Steps p.tables e below (T13.setTop (mkF m 273 #[.val (.int p0), .val (.double (FP.ddiv (FP.i2d p0) 4620693217682128896)), .second, .val (.ref nb_1), .val (.int (1 : Int32))] [])) _
    refine XS.iload X13.here hx rfl (hb hby at_273) rfl ?_
    show Steps p.tables e below (T13.setTop (mkF m 275 #[.val (.int p0), .val (.double (FP.ddiv (FP.i2d p0) 4620693217682128896)), .second, .val (.ref nb_1), .val (.int (1 : Int32))] [(.int (1 : Int32))])) _
    refine XS.ifNo X13.here hx rfl (hb hby at_275) rfl ((if0 _ _).trans (feq (by decide : ¬ ((1 : Int32) = (0 : Int32)))).1) ?_
    show Steps p.tables e below (T13.setTop (mkF m 278 #[.val (.int p0), .val (.double (FP.ddiv (FP.i2d p0) 4620693217682128896)), .second, .val (.ref nb_1), .val (.int (1 : Int32))] [])) _
    refine XS.aloadN X13.here hx rfl (hb hby at_278) rfl rfl ?_
    show Steps p.tables e below (T13.setTop (mkF m 279 #[.val (.int p0), .val (.double (FP.ddiv (FP.i2d p0) 4620693217682128896)), .second, .val (.ref nb_1), .val (.int (1 : Int32))] [(.ref nb_1)])) _
    refine st14.trans ?_
    show Steps p.tables e below (T14.setTop (mkF m 282 #[.val (.int p0), .val (.double (FP.ddiv (FP.i2d p0) 4620693217682128896)), .second, .val (.ref nb_1), .val (.int (1 : Int32))] [(.double 4696837146684686336)])) _
    refine X14.ldc2DoubleC hx hown (mvT hZ (hw _ (List.mem_of_getElem? (i := 132) rfl))) (g := (mkF m 282 #[.val (.int p0), .val (.double (FP.ddiv (FP.i2d p0) 4620693217682128896)), .second, .val (.ref nb_1), .val (.int (1 : Int32))] [(.double 4696837146684686336)])) rfl (hb hby at_282) _ ?_
    show Steps p.tables e below (T14.setTop (mkF m 285 #[.val (.int p0), .val (.double (FP.ddiv (FP.i2d p0) 4620693217682128896)), .second, .val (.ref nb_1), .val (.int (1 : Int32))] [(.double 4696837146684686336), (.double 4696837146684686336)])) _
    refine XS.dcmpS X14.here hx rfl (hb hby at_285) rfl (v := (0 : Int32)) (by decide +kernel) ?_
    show Steps p.tables e below (T14.setTop (mkF m 286 #[.val (.int p0), .val (.double (FP.ddiv (FP.i2d p0) 4620693217682128896)), .second, .val (.ref nb_1), .val (.int (1 : Int32))] [(.int (0 : Int32))])) _
    refine XS.ifNo X14.here hx rfl (hb hby at_286) rfl ((if0 _ _).trans (teq (rfl : (0 : Int32) = (0 : Int32))).2) ?_
    show Steps p.tables e below (T14.setTop (mkF m 289 #[.val (.int p0), .val (.double (FP.ddiv (FP.i2d p0) 4620693217682128896)), .second, .val (.ref nb_1), .val (.int (1 : Int32))] [])) _
    refine XS.iconst X14.here hx rfl (hb hby at_289) ?_
    show Steps p.tables e below (T14.setTop (mkF m 290 #[.val (.int p0), .val (.double (FP.ddiv (FP.i2d p0) 4620693217682128896)), .second, .val (.ref nb_1), .val (.int (1 : Int32))] [(.int (1 : Int32))])) _
    refine XS.goto X14.here hx rfl (pc0 := 290) (pc' := 294) rfl (hb hby at_290) (by decide) (by decide) ?_
    show Steps p.tables e below (T14.setTop (mkF m 294 #[.val (.int p0), .val (.double (FP.ddiv (FP.i2d p0) 4620693217682128896)), .second, .val (.ref nb_1), .val (.int (1 : Int32))] [(.int (1 : Int32))])) _
    refine XS.istore X14.here hx rfl (hb hby at_294) rfl (l' := #[.val (.int p0), .val (.double (FP.ddiv (FP.i2d p0) 4620693217682128896)), .second, .val (.ref nb_1), .val (.int (1 : Int32))]) rfl ?_
    show Steps p.tables e below (T14.setTop (mkF m 296 #[.val (.int p0), .val (.double (FP.ddiv (FP.i2d p0) 4620693217682128896)), .second, .val (.ref nb_1), .val (.int (1 : Int32))] [])) _
    refine XS.iload X14.here hx rfl (hb hby at_296) rfl ?_
    show Steps p.tables e below (T14.setTop (mkF m 298 #[.val (.int p0), .val (.double (FP.ddiv (FP.i2d p0) 4620693217682128896)), .second, .val (.ref nb_1), .val (.int (1 : Int32))] [(.int (1 : Int32))])) _
    refine XS.ifNo X14.here hx rfl (hb hby at_298) rfl ((if0 _ _).trans (feq (by decide : ¬ ((1 : Int32) = (0 : Int32)))).1) ?_
    show Steps p.tables e below (T14.setTop (mkF m 301 #[.val (.int p0), .val (.double (FP.ddiv (FP.i2d p0) 4620693217682128896)), .second, .val (.ref nb_1), .val (.int (1 : Int32))] [])) _
    refine XS.aloadN X14.here hx rfl (hb hby at_301) rfl rfl ?_
    show Steps p.tables e below (T14.setTop (mkF m 302 #[.val (.int p0), .val (.double (FP.ddiv (FP.i2d p0) 4620693217682128896)), .second, .val (.ref nb_1), .val (.int (1 : Int32))] [(.ref nb_1)])) _
    refine st15.trans ?_
    show Steps p.tables e below (T15.setTop (mkF m 305 #[.val (.int p0), .val (.double (FP.ddiv (FP.i2d p0) 4620693217682128896)), .second, .val (.ref nb_1), .val (.int (1 : Int32))] [(.double 4636737291354636288)])) _
    refine X15.ldc2DoubleC hx hown (mvT hZ (hw _ (List.mem_of_getElem? (i := 138) rfl))) (g := (mkF m 305 #[.val (.int p0), .val (.double (FP.ddiv (FP.i2d p0) 4620693217682128896)), .second, .val (.ref nb_1), .val (.int (1 : Int32))] [(.double 4636737291354636288)])) rfl (hb hby at_305) _ ?_
    show Steps p.tables e below (T15.setTop (mkF m 308 #[.val (.int p0), .val (.double (FP.ddiv (FP.i2d p0) 4620693217682128896)), .second, .val (.ref nb_1), .val (.int (1 : Int32))] [(.double 4636737291354636288), (.double 4636737291354636288)])) _
    refine XS.dcmpS X15.here hx rfl (hb hby at_308) rfl (v := (0 : Int32)) (by decide +kernel) ?_
    show Steps p.tables e below (T15.setTop (mkF m 309 #[.val (.int p0), .val (.double (FP.ddiv (FP.i2d p0) 4620693217682128896)), .second, .val (.ref nb_1), .val (.int (1 : Int32))] [(.int (0 : Int32))])) _
    refine XS.ifNo X15.here hx rfl (hb hby at_309) rfl ((if0 _ _).trans (teq (rfl : (0 : Int32) = (0 : Int32))).2) ?_
    show Steps p.tables e below (T15.setTop (mkF m 312 #[.val (.int p0), .val (.double (FP.ddiv (FP.i2d p0) 4620693217682128896)), .second, .val (.ref nb_1), .val (.int (1 : Int32))] [])) _
    refine XS.iconst X15.here hx rfl (hb hby at_312) ?_
    show Steps p.tables e below (T15.setTop (mkF m 313 #[.val (.int p0), .val (.double (FP.ddiv (FP.i2d p0) 4620693217682128896)), .second, .val (.ref nb_1), .val (.int (1 : Int32))] [(.int (1 : Int32))])) _
    refine XS.goto X15.here hx rfl (pc0 := 313) (pc' := 317) rfl (hb hby at_313) (by decide) (by decide) ?_
    show Steps p.tables e below (T15.setTop (mkF m 317 #[.val (.int p0), .val (.double (FP.ddiv (FP.i2d p0) 4620693217682128896)), .second, .val (.ref nb_1), .val (.int (1 : Int32))] [(.int (1 : Int32))])) _
    refine XS.istore X15.here hx rfl (hb hby at_317) rfl (l' := #[.val (.int p0), .val (.double (FP.ddiv (FP.i2d p0) 4620693217682128896)), .second, .val (.ref nb_1), .val (.int (1 : Int32))]) rfl ?_
    show Steps p.tables e below (T15.setTop (mkF m 319 #[.val (.int p0), .val (.double (FP.ddiv (FP.i2d p0) 4620693217682128896)), .second, .val (.ref nb_1), .val (.int (1 : Int32))] [])) _
    refine XS.iload X15.here hx rfl (hb hby at_319) rfl ?_
    show Steps p.tables e below (T15.setTop (mkF m 321 #[.val (.int p0), .val (.double (FP.ddiv (FP.i2d p0) 4620693217682128896)), .second, .val (.ref nb_1), .val (.int (1 : Int32))] [(.int (1 : Int32))])) _
    refine XS.ifNo X15.here hx rfl (hb hby at_321) rfl ((if0 _ _).trans (feq (by decide : ¬ ((1 : Int32) = (0 : Int32)))).1) ?_
    show Steps p.tables e below (T15.setTop (mkF m 324 #[.val (.int p0), .val (.double (FP.ddiv (FP.i2d p0) 4620693217682128896)), .second, .val (.ref nb_1), .val (.int (1 : Int32))] [])) _
    refine XS.aloadN X15.here hx rfl (hb hby at_324) rfl rfl ?_
    show Steps p.tables e below (T15.setTop (mkF m 325 #[.val (.int p0), .val (.double (FP.ddiv (FP.i2d p0) 4620693217682128896)), .second, .val (.ref nb_1), .val (.int (1 : Int32))] [(.ref nb_1)])) _
    refine st16.trans ?_
    show Steps p.tables e below (T16.setTop (mkF m 328 #[.val (.int p0), .val (.double (FP.ddiv (FP.i2d p0) 4620693217682128896)), .second, .val (.ref nb_1), .val (.int (1 : Int32))] [(.double 4611686018427387904)])) _
    refine X16.ldc2DoubleC hx hown (mvT hZ (hw _ (List.mem_of_getElem? (i := 144) rfl))) (g := (mkF m 328 #[.val (.int p0), .val (.double (FP.ddiv (FP.i2d p0) 4620693217682128896)), .second, .val (.ref nb_1), .val (.int (1 : Int32))] [(.double 4611686018427387904)])) rfl (hb hby at_328) _ ?_
    show Steps p.tables e below (T16.setTop (mkF m 331 #[.val (.int p0), .val (.double (FP.ddiv (FP.i2d p0) 4620693217682128896)), .second, .val (.ref nb_1), .val (.int (1 : Int32))] [(.double 4611686018427387904), (.double 4611686018427387904)])) _
    refine XS.dcmpS X16.here hx rfl (hb hby at_331) rfl (v := (0 : Int32)) (by decide +kernel) ?_
    show Steps p.tables e below (T16.setTop (mkF m 332 #[.val (.int p0), .val (.double (FP.ddiv (FP.i2d p0) 4620693217682128896)), .second, .val (.ref nb_1), .val (.int (1 : Int32))] [(.int (0 : Int32))])) _
    refine XS.ifNo X16.here hx rfl (hb hby at_332) rfl ((if0 _ _).trans (teq (rfl : (0 : Int32) = (0 : Int32))).2) ?_
    show Steps p.tables e below (T16.setTop (mkF m 335 #[.val (.int p0), .val (.double (FP.ddiv (FP.i2d p0) 4620693217682128896)), .second, .val (.ref nb_1), .val (.int (1 : Int32))] [])) _
    refine XS.iconst X16.here hx rfl (hb hby at_335) ?_
    show Steps p.tables e below (T16.setTop (mkF m 336 #[.val (.int p0), .val (.double (FP.ddiv (FP.i2d p0) 4620693217682128896)), .second, .val (.ref nb_1), .val (.int (1 : Int32))] [(.int (1 : Int32))])) _
    refine XS.goto X16.here hx rfl (pc0 := 336) (pc' := 340) rfl (hb hby at_336) (by decide) (by decide) ?_
    show Steps p.tables e below (T16.setTop (mkF m 340 #[.val (.int p0), .val (.double (FP.ddiv (FP.i2d p0) 4620693217682128896)), .second, .val (.ref nb_1), .val (.int (1 : Int32))] [(.int (1 : Int32))])) _
    refine XS.istore X16.here hx rfl (hb hby at_340) rfl (l' := #[.val (.int p0), .val (.double (FP.ddiv (FP.i2d p0) 4620693217682128896)), .second, .val (.ref nb_1), .val (.int (1 : Int32))]) rfl ?_
    show Steps p.tables e below (T16.setTop (mkF m 342 #[.val (.int p0), .val (.double (FP.ddiv (FP.i2d p0) 4620693217682128896)), .second, .val (.ref nb_1), .val (.int (1 : Int32))] [])) _
    refine XS.iload X16.here hx rfl (hb hby at_342) rfl ?_
    show Steps p.tables e below (T16.setTop (mkF m 344 #[.val (.int p0), .val (.double (FP.ddiv (FP.i2d p0) 4620693217682128896)), .second, .val (.ref nb_1), .val (.int (1 : Int32))] [(.int (1 : Int32))])) _
    refine XS.ifNo X16.here hx rfl (hb hby at_344) rfl ((if0 _ _).trans (feq (by decide : ¬ ((1 : Int32) = (0 : Int32)))).1) ?_
    show Steps p.tables e below (T16.setTop (mkF m 347 #[.val (.int p0), .val (.double (FP.ddiv (FP.i2d p0) 4620693217682128896)), .second, .val (.ref nb_1), .val (.int (1 : Int32))] [])) _
    refine XS.aloadN X16.here hx rfl (hb hby at_347) rfl rfl ?_
    show Steps p.tables e below (T16.setTop (mkF m 348 #[.val (.int p0), .val (.double (FP.ddiv (FP.i2d p0) 4620693217682128896)), .second, .val (.ref nb_1), .val (.int (1 : Int32))] [(.ref nb_1)])) _
    refine st17.trans ?_
    show Steps p.tables e below (T17.setTop (mkF m 351 #[.val (.int p0), .val (.double (FP.ddiv (FP.i2d p0) 4620693217682128896)), .second, .val (.ref nb_1), .val (.int (1 : Int32))] [(.double 4621819117588971520)])) _
    refine X17.ldc2DoubleC hx hown (mvT hZ (hw _ (List.mem_of_getElem? (i := 121) rfl))) (g := (mkF m 351 #[.val (.int p0), .val (.double (FP.ddiv (FP.i2d p0) 4620693217682128896)), .second, .val (.ref nb_1), .val (.int (1 : Int32))] [(.double 4621819117588971520)])) rfl (hb hby at_351) _ ?_
    show Steps p.tables e below (T17.setTop (mkF m 354 #[.val (.int p0), .val (.double (FP.ddiv (FP.i2d p0) 4620693217682128896)), .second, .val (.ref nb_1), .val (.int (1 : Int32))] [(.double 4621819117588971520), (.double 4621819117588971520)])) _
    refine XS.dcmpS X17.here hx rfl (hb hby at_354) rfl (v := (0 : Int32)) (by decide +kernel) ?_
    show Steps p.tables e below (T17.setTop (mkF m 355 #[.val (.int p0), .val (.double (FP.ddiv (FP.i2d p0) 4620693217682128896)), .second, .val (.ref nb_1), .val (.int (1 : Int32))] [(.int (0 : Int32))])) _
    refine XS.ifNo X17.here hx rfl (hb hby at_355) rfl ((if0 _ _).trans (teq (rfl : (0 : Int32) = (0 : Int32))).2) ?_
    show Steps p.tables e below (T17.setTop (mkF m 358 #[.val (.int p0), .val (.double (FP.ddiv (FP.i2d p0) 4620693217682128896)), .second, .val (.ref nb_1), .val (.int (1 : Int32))] [])) _
    refine XS.iconst X17.here hx rfl (hb hby at_358) ?_
    show Steps p.tables e below (T17.setTop (mkF m 359 #[.val (.int p0), .val (.double (FP.ddiv (FP.i2d p0) 4620693217682128896)), .second, .val (.ref nb_1), .val (.int (1 : Int32))] [(.int (1 : Int32))])) _
    refine XS.goto X17.here hx rfl (pc0 := 359) (pc' := 363) rfl (hb hby at_359) (by decide) (by decide) ?_
    show Steps p.tables e below (T17.setTop (mkF m 363 #[.val (.int p0), .val (.double (FP.ddiv (FP.i2d p0) 4620693217682128896)), .second, .val (.ref nb_1), .val (.int (1 : Int32))] [(.int (1 : Int32))])) _
    refine XS.istore X17.here hx rfl (hb hby at_363) rfl (l' := #[.val (.int p0), .val (.double (FP.ddiv (FP.i2d p0) 4620693217682128896)), .second, .val (.ref nb_1), .val (.int (1 : Int32))]) rfl ?_
    show Steps p.tables e below (T17.setTop (mkF m 365 #[.val (.int p0), .val (.double (FP.ddiv (FP.i2d p0) 4620693217682128896)), .second, .val (.ref nb_1), .val (.int (1 : Int32))] [])) _
    refine XS.iload X17.here hx rfl (hb hby at_365) rfl ?_
    show Steps p.tables e below (T17.setTop (mkF m 367 #[.val (.int p0), .val (.double (FP.ddiv (FP.i2d p0) 4620693217682128896)), .second, .val (.ref nb_1), .val (.int (1 : Int32))] [(.int (1 : Int32))])) _
    refine XS.ifNo X17.here hx rfl (hb hby at_367) rfl ((if0 _ _).trans (feq (by decide : ¬ ((1 : Int32) = (0 : Int32)))).1) ?_
    show Steps p.tables e below (T17.setTop (mkF m 370 #[.val (.int p0), .val (.double (FP.ddiv (FP.i2d p0) 4620693217682128896)), .second, .val (.ref nb_1), .val (.int (1 : Int32))] [])) _
    refine XS.aloadN X17.here hx rfl (hb hby at_370) rfl rfl ?_
    show Steps p.tables e below (T17.setTop (mkF m 371 #[.val (.int p0), .val (.double (FP.ddiv (FP.i2d p0) 4620693217682128896)), .second, .val (.ref nb_1), .val (.int (1 : Int32))] [(.ref nb_1)])) _
    refine st18.trans ?_
    show Steps p.tables e below (T18.setTop (mkF m 374 #[.val (.int p0), .val (.double (FP.ddiv (FP.i2d p0) 4620693217682128896)), .second, .val (.ref nb_1), .val (.int (1 : Int32))] [(.int (20 : Int32))])) _
    refine XS.bipush X18.here hx rfl (hb hby at_374) ?_
    show Steps p.tables e below (T18.setTop (mkF m 376 #[.val (.int p0), .val (.double (FP.ddiv (FP.i2d p0) 4620693217682128896)), .second, .val (.ref nb_1), .val (.int (1 : Int32))] [(.int (20 : Int32)), (.int (20 : Int32))])) _
    refine XS.icmpNo X18.here hx rfl (hb hby at_376) rfl (teq (rfl : (20 : Int32) = (20 : Int32))).2 ?_
    show Steps p.tables e below (T18.setTop (mkF m 379 #[.val (.int p0), .val (.double (FP.ddiv (FP.i2d p0) 4620693217682128896)), .second, .val (.ref nb_1), .val (.int (1 : Int32))] [])) _
    refine XS.iconst X18.here hx rfl (hb hby at_379) ?_
    show Steps p.tables e below (T18.setTop (mkF m 380 #[.val (.int p0), .val (.double (FP.ddiv (FP.i2d p0) 4620693217682128896)), .second, .val (.ref nb_1), .val (.int (1 : Int32))] [(.int (1 : Int32))])) _
    refine XS.goto X18.here hx rfl (pc0 := 380) (pc' := 384) rfl (hb hby at_380) (by decide) (by decide) ?_
    show Steps p.tables e below (T18.setTop (mkF m 384 #[.val (.int p0), .val (.double (FP.ddiv (FP.i2d p0) 4620693217682128896)), .second, .val (.ref nb_1), .val (.int (1 : Int32))] [(.int (1 : Int32))])) _
    refine XS.istore X18.here hx rfl (hb hby at_384) rfl (l' := #[.val (.int p0), .val (.double (FP.ddiv (FP.i2d p0) 4620693217682128896)), .second, .val (.ref nb_1), .val (.int (1 : Int32))]) rfl ?_
    show Steps p.tables e below (T18.setTop (mkF m 386 #[.val (.int p0), .val (.double (FP.ddiv (FP.i2d p0) 4620693217682128896)), .second, .val (.ref nb_1), .val (.int (1 : Int32))] [])) _
    refine XS.iload X18.here hx rfl (hb hby at_386) rfl ?_
    show Steps p.tables e below (T18.setTop (mkF m 388 #[.val (.int p0), .val (.double (FP.ddiv (FP.i2d p0) 4620693217682128896)), .second, .val (.ref nb_1), .val (.int (1 : Int32))] [(.int (1 : Int32))])) _
    exact retN X18 hx (t := .boolean) Bd.returns (by simp) (hb hby at_388) hr
  · show Q_rm0 Z p0 h0 n0 _ T18.heap _
    rw [e18]
    exact ⟨rfl, N18⟩
set_option maxRecDepth 65536 in
set_option maxHeartbeats 40000000 in
theorem comes_1 {Post : Tables → Env → Array Value → State → Outcome → State → Prop} (hpost : ∀ tb e args s v u, (limb_1_1.after args s (.returned v) u = true ∧ limb_1_2.after args s (.returned v) u = true ∧ True) → FrameEnd s (.returned v) u (Jvm.fieldLocs frame_1_writes args s ++ Jvm.arrayLocs frame_1_arrays args s ++ Jvm.staticLocs frame_1_statics s) 16 128 → Post tb e args s (.returned v) u) :
    ArmFor flags0 classFile x code maxLocals ret World_1 tables_1 room_1 Calls_1 rest_1 Pre_1 Post := by
  intro l hfl _ _ p e ha hc hk s m args below hf hA hF happ hP
  obtain ⟨hcalls, hrest, hpre⟩ := hP
  obtain ⟨-, -, -, hnamed, -, -, -, hat⟩ := (Spec.applies_iff hf).mp happ
  obtain ⟨hg, hn⟩ := and_e (Cond.before_iff.mp (show (Jvm.Cond.and given_1 narrow_1).before args s = true from hpre))
  obtain ⟨hc0, hr0⟩ := and_e hg
  have hv0 := hr0
  obtain ⟨w0, rfl⟩ : ∃ w0 : Value, args = #[w0] := by
    have hs : args.size = 1 := by simpa [Cond.value, given_1] using hc0
    obtain ⟨L⟩ := args
    match L, hs with
    | [w0], _ => exact ⟨w0, rfl⟩
  have hw := fun d (hd : d ∈ tables_1) => atoms_spec (ws := Jvm.Cond.code x code maxLocals ret :: tables_1) hat d (List.mem_cons_of_mem _ hd)
  obtain ⟨i0, ei0⟩ := is_v hv0
  obtain rfl : w0 = (.int i0) := Option.some.inj ei0
  obtain ⟨n, o, h1, h2, h3, _, L, rfl, ⟨rfl, N⟩, hq⟩ := rm0 l s _ hw tables_1 i0 s.heap s.heap.size (Nat.le_refl _) p e ha hc hk s m _ below hf ((Spec.applies_iff_loose hf).mp happ).1 ⟨rfl, State.Warmed39.refl s, rfl⟩ trivial
  refine ⟨n, _, h1, h2, h3, hpost _ _ _ _ _ _ ⟨Cond.after_iff.mpr rfl, Cond.after_iff.mpr (eq_i res_at (Term.int_eval (1)) rfl), trivial⟩ ⟨hq.1, hq.2.1, (hq.2.2.sift fun y hy => Or.inr (N y hy)).mono (by decide) (by decide)⟩⟩
theorem main_1_1 : Claimed_1_1 := comes_1 fun _ _ _ _ _ _ h hF => ⟨h.1, hF⟩
theorem main_1_2 : Claimed_1_2 := comes_1 fun _ _ _ _ _ _ h hF => ⟨h.2.1, hF⟩
end Jvm.Pilot.@@N@@
namespace Jvm.Pilot.@@N@@
open Jvm Jvm.ClassFile Sem Op Lib Jvm.Free Jvm.Stand Jvm.Pilot.@@N@@.Jvm.D
/-! MADE BY PROGRAM (witnessworld.py) out of the Statement's table words and the real class files: 10 classes; the members and pool entries that the words name. The judged class is class 1, her method 1. -/
namespace start1
open Jvm.ClassFile
def u (s : String) : CpInfo := .utf8 (stringToUtf16 s)
/-- a pool by its gaps: so many unusable entries, then the entry; so many at the end -/
def gap : Nat → List CpInfo → List CpInfo
  | 0, r => r
  | n + 1, r => .unusable :: gap n r
def poolList (es : List (Nat × CpInfo)) (last : Nat) : List CpInfo := es.foldr (fun e r => gap e.1 (e.2 :: r)) (gap last [])
def pool (es : List (Nat × CpInfo)) (last : Nat) : Array CpInfo := ⟨poolList es last⟩
def fileOf (pool : Array CpInfo) (this : Nat) (attrs : Array Attribute := #[]) (ms : Array MethodInfo := #[]) (fl : Nat := 33) (sup : Nat := 0) (ifs : Array Nat := #[]) (fds : Array FieldInfo := #[]) : ClassFile where
  minorVersion := 0
  majorVersion := 65
  constantPool := pool
  accessFlags := fl
  thisClass := this
  superClass := sup
  interfaces := ifs
  fields := fds
  methods := ms
  attributes := attrs
def plain (name : String) (sup : Option ClassId) : Class where
  name := name
  kind := .ordinary
  loader := none
  accessFlags := 33
  super := sup
  interfaces := #[]
  cf := none
  fields := #[]
  methods := #[]
  instanceTypes := #[]
  staticTypes := #[]
  resolved := #[]
  callSites := []
  init := .initialized
  statics := none
  mirror := none

def pool0 : Array CpInfo := pool [(5, u "<init>"), (0, u "()V"), (1, .class_ 10), (1, u "java/lang/Object")] 113

def k0c0 : Code := { maxStack := 0, maxLocals := 1, code := object_method_1_code, exceptionTable := #[], attributes := #[] }
def k0m0 : Method := { name := "<init>", desc := "()V", sig := { parameters := [], returnType := none }, accessFlags := 1, code := some k0c0 }
/-- java/lang/Object -/
def k0 : Class := { plain "java/lang/Object" none with
  accessFlags := 33
  interfaces := #[]
  cf := some (fileOf pool0 8 #[] #[{ accessFlags := 1, nameIndex := 5, descriptorIndex := 6, attributes := #[] }] 33 0 #[] #[])
  fields := #[]
  methods := #[k0m0]
  instanceTypes := #[]
  staticTypes := #[]
  resolved := Array.replicate 124 none
  statics := none }

def pool1 : Array CpInfo := pool [(2, .class_ 4), (1, u "java/lang/Object"), (0, u "<init>"), (0, u "()V"), (0, .double 4620693217682128896), (1, .methodref 10 11), (0, .class_ 12), (0, .nameAndType 13 14), (0, u "com/example/tolc/tolc/ControllerSettings"), (0, u "forTarget"), (0, u "(D)Lcom/example/tolc/tolc/ControllerSettings;"), (0, .methodref 10 16), (0, .nameAndType 17 18), (0, u "targetP90Millis"), (0, u "()D"), (0, .methodref 10 20), (0, .nameAndType 21 22), (0, u "samplesPerRun"), (0, u "()I"), (0, .methodref 10 24), (0, .nameAndType 25 26), (0, u "timeoutMillis"), (0, u "()J"), (0, .long 1000), (1, .methodref 10 30), (0, .nameAndType 31 22), (0, u "earlyRunSamples"), (0, .methodref 10 33), (0, .nameAndType 34 18), (0, u "smoothing"), (0, .double 4602678819172646912), (1, .methodref 10 38), (0, .nameAndType 39 18), (0, u "completionSmoothing"), (0, .double 4605380978949069210), (1, .methodref 10 43), (0, .nameAndType 44 18), (0, u "cutAboveError"), (0, .methodref 10 46), (0, .nameAndType 47 18), (0, u "cutDivisor"), (0, .double 4608083138725491507), (1, .methodref 10 51), (0, .nameAndType 52 18), (0, u "raiseBelowError"), (0, .double 13822447976325526323), (1, .methodref 10 56), (0, .nameAndType 57 18), (0, u "raiseFromError"), (0, .methodref 10 59), (0, .nameAndType 60 18), (0, u "raiseStep"), (0, .double 4621819117588971520), (1, .methodref 10 64), (0, .nameAndType 65 18), (0, u "minRatePerSecond"), (0, .methodref 10 67), (0, .nameAndType 68 18), (0, u "maxRatePerSecond"), (0, .double 4696837146684686336), (1, .methodref 10 72), (0, .nameAndType 73 18), (0, u "initialRatePerSecond"), (0, .double 4636737291354636288), (1, .methodref 10 77), (0, .nameAndType 78 18), (0, u "demandReach"), (0, .double 4611686018427387904), (1, .methodref 10 82), (0, .nameAndType 83 18), (0, u "lowerCutDivisor"), (0, .methodref 10 85), (0, .nameAndType 86 22), (0, u "ownCutRuns"), (0, .class_ 88), (0, u "com/example/tolc/tolc/ControllerSettingsForTargetPinLaw"), (2, u "law"), (0, u "(I)Z")] 3

def k1m0 : Method := { name := "<init>", desc := "()V", sig := { parameters := [], returnType := none }, accessFlags := 1, code := none }
def k1c1 : Code := { maxStack := 4, maxLocals := 5, code := code, exceptionTable := #[], attributes := #[] }
def k1m1 : Method := { name := "law", desc := "(I)Z", sig := { parameters := [.int], returnType := some .boolean }, accessFlags := 9, code := some k1c1 }
/-- com/example/tolc/tolc/ControllerSettingsForTargetPinLaw -/
def k1 : Class := { plain "com/example/tolc/tolc/ControllerSettingsForTargetPinLaw" (some 0) with
  accessFlags := 49
  interfaces := #[]
  cf := some (fileOf pool1 87 #[] #[{ accessFlags := 1, nameIndex := 5, descriptorIndex := 6, attributes := #[] }, { accessFlags := 9, nameIndex := 91, descriptorIndex := 92, attributes := #[] }] 49 2 #[] #[])
  fields := #[]
  methods := #[k1m0, k1m1]
  instanceTypes := #[]
  staticTypes := #[]
  resolved := Array.replicate 96 none
  statics := none }

def pool2 : Array CpInfo := pool [(1, .methodref 2 3), (0, .class_ 4), (0, .nameAndType 5 6), (0, u "java/lang/Object"), (0, u "<init>"), (0, u "()V"), (0, .class_ 8), (0, u "java/lang/Record")] 13

def k2c0 : Code := { maxStack := 1, maxLocals := 1, code := jdk_30_method_1_code, exceptionTable := #[], attributes := #[] }
def k2m0 : Method := { name := "<init>", desc := "()V", sig := { parameters := [], returnType := none }, accessFlags := 4, code := some k2c0 }
/-- java/lang/Record -/
def k2 : Class := { plain "java/lang/Record" (some 0) with
  accessFlags := 1057
  interfaces := #[]
  cf := some (fileOf pool2 7 #[] #[{ accessFlags := 4, nameIndex := 5, descriptorIndex := 6, attributes := #[] }] 1057 2 #[] #[])
  fields := #[]
  methods := #[k2m0]
  instanceTypes := #[]
  staticTypes := #[]
  resolved := Array.replicate 22 none
  statics := none }

def pool3 : Array CpInfo := pool [(1, .methodref 2 3), (0, .class_ 4), (0, .nameAndType 5 6), (0, u "java/lang/Record"), (0, u "<init>"), (0, u "()V"), (0, .fieldref 8 9), (0, .class_ 10), (0, .nameAndType 11 12), (0, u "com/example/tolc/tolc/ControllerSettings"), (0, u "targetP90Millis"), (0, u "D"), (0, .fieldref 8 14), (0, .nameAndType 15 16), (0, u "samplesPerRun"), (0, u "I"), (0, .fieldref 8 18), (0, .nameAndType 19 20), (0, u "timeoutMillis"), (0, u "J"), (0, .fieldref 8 22), (0, .nameAndType 23 16), (0, u "earlyRunSamples"), (0, .fieldref 8 25), (0, .nameAndType 26 12), (0, u "smoothing"), (0, .fieldref 8 28), (0, .nameAndType 29 12), (0, u "completionSmoothing"), (0, .fieldref 8 31), (0, .nameAndType 32 12), (0, u "cutAboveError"), (0, .fieldref 8 34), (0, .nameAndType 35 12), (0, u "cutDivisor"), (0, .fieldref 8 37), (0, .nameAndType 38 12), (0, u "raiseBelowError"), (0, .fieldref 8 40), (0, .nameAndType 41 12), (0, u "raiseFromError"), (0, .fieldref 8 43), (0, .nameAndType 44 12), (0, u "raiseStep"), (0, .fieldref 8 46), (0, .nameAndType 47 12), (0, u "minRatePerSecond"), (0, .fieldref 8 49), (0, .nameAndType 50 12), (0, u "maxRatePerSecond"), (0, .fieldref 8 52), (0, .nameAndType 53 12), (0, u "initialRatePerSecond"), (0, .fieldref 8 55), (0, .nameAndType 56 12), (0, u "demandReach"), (0, .fieldref 8 58), (0, .nameAndType 59 12), (0, u "lowerCutDivisor"), (0, .fieldref 8 61), (0, .nameAndType 62 16), (0, u "ownCutRuns"), (0, .long 1000), (1, .double 4602678819172646912), (1, .double 4605380978949069210), (1, .double 4608083138725491507), (1, .double 13822447976325526323), (1, .double 4621819117588971520), (1, .double 4696837146684686336), (1, .double 4636737291354636288), (1, .double 4611686018427387904), (1, .methodref 8 82), (0, .nameAndType 5 83), (0, u "(DIJIDDDDDDDDDDDDI)V"), (120, .class_ 205), (0, u "com/example/tolc/tolc/ControllerSettings$Components"), (40, u "DEFAULT_SAMPLES_PER_RUN"), (2, u "DEFAULT_TIMEOUT_MILLIS"), (0, u "DEFAULT_EARLY_RUN_SAMPLES"), (1, u "DEFAULT_SMOOTHING"), (0, u "DEFAULT_COMPLETION_SMOOTHING"), (0, u "DEFAULT_CUT_ABOVE_ERROR"), (2, u "DEFAULT_CUT_DIVISOR"), (0, u "DEFAULT_RAISE_BELOW_ERROR"), (0, u "DEFAULT_RAISE_FROM_ERROR"), (0, u "DEFAULT_RAISE_STEP"), (0, u "DEFAULT_MIN_RATE_PER_SECOND"), (2, u "DEFAULT_MAX_RATE_PER_SECOND"), (0, u "DEFAULT_INITIAL_RATE_PER_SECOND"), (0, u "DEFAULT_DEMAND_REACH"), (0, u "DEFAULT_LOWER_CUT_DIVISOR"), (0, u "DEFAULT_OWN_CUT_RUNS"), (3, u "forTarget"), (0, u "(D)Lcom/example/tolc/tolc/ControllerSettings;"), (23, u "()I"), (1, u "()D"), (0, u "()J")] 131

def k3c0 : Code := { maxStack := 3, maxLocals := 32, code := prog_8_method_1_code, exceptionTable := #[], attributes := #[] }
def k3m0 : Method := { name := "<init>", desc := "(DIJIDDDDDDDDDDDDI)V", sig := { parameters := [.double, .int, .long, .int, .double, .double, .double, .double, .double, .double, .double, .double, .double, .double, .double, .double, .int], returnType := none }, accessFlags := 1, code := some k3c0 }
def k3c1 : Code := { maxStack := 33, maxLocals := 2, code := prog_8_method_2_code, exceptionTable := #[], attributes := #[] }
def k3m1 : Method := { name := "forTarget", desc := "(D)Lcom/example/tolc/tolc/ControllerSettings;", sig := { parameters := [.double], returnType := some (.object "com/example/tolc/tolc/ControllerSettings") }, accessFlags := 9, code := some k3c1 }
def k3c2 : Code := { maxStack := 2, maxLocals := 1, code := prog_8_method_29_code, exceptionTable := #[], attributes := #[] }
def k3m2 : Method := { name := "targetP90Millis", desc := "()D", sig := { parameters := [], returnType := some .double }, accessFlags := 1, code := some k3c2 }
def k3c3 : Code := { maxStack := 1, maxLocals := 1, code := prog_8_method_30_code, exceptionTable := #[], attributes := #[] }
def k3m3 : Method := { name := "samplesPerRun", desc := "()I", sig := { parameters := [], returnType := some .int }, accessFlags := 1, code := some k3c3 }
def k3c4 : Code := { maxStack := 2, maxLocals := 1, code := prog_8_method_31_code, exceptionTable := #[], attributes := #[] }
def k3m4 : Method := { name := "timeoutMillis", desc := "()J", sig := { parameters := [], returnType := some .long }, accessFlags := 1, code := some k3c4 }
def k3c5 : Code := { maxStack := 1, maxLocals := 1, code := prog_8_method_32_code, exceptionTable := #[], attributes := #[] }
def k3m5 : Method := { name := "earlyRunSamples", desc := "()I", sig := { parameters := [], returnType := some .int }, accessFlags := 1, code := some k3c5 }
def k3c6 : Code := { maxStack := 2, maxLocals := 1, code := prog_8_method_33_code, exceptionTable := #[], attributes := #[] }
def k3m6 : Method := { name := "smoothing", desc := "()D", sig := { parameters := [], returnType := some .double }, accessFlags := 1, code := some k3c6 }
def k3c7 : Code := { maxStack := 2, maxLocals := 1, code := prog_8_method_34_code, exceptionTable := #[], attributes := #[] }
def k3m7 : Method := { name := "completionSmoothing", desc := "()D", sig := { parameters := [], returnType := some .double }, accessFlags := 1, code := some k3c7 }
def k3c8 : Code := { maxStack := 2, maxLocals := 1, code := prog_8_method_35_code, exceptionTable := #[], attributes := #[] }
def k3m8 : Method := { name := "cutAboveError", desc := "()D", sig := { parameters := [], returnType := some .double }, accessFlags := 1, code := some k3c8 }
def k3c9 : Code := { maxStack := 2, maxLocals := 1, code := prog_8_method_36_code, exceptionTable := #[], attributes := #[] }
def k3m9 : Method := { name := "cutDivisor", desc := "()D", sig := { parameters := [], returnType := some .double }, accessFlags := 1, code := some k3c9 }
def k3c10 : Code := { maxStack := 2, maxLocals := 1, code := prog_8_method_37_code, exceptionTable := #[], attributes := #[] }
def k3m10 : Method := { name := "raiseBelowError", desc := "()D", sig := { parameters := [], returnType := some .double }, accessFlags := 1, code := some k3c10 }
def k3c11 : Code := { maxStack := 2, maxLocals := 1, code := prog_8_method_38_code, exceptionTable := #[], attributes := #[] }
def k3m11 : Method := { name := "raiseFromError", desc := "()D", sig := { parameters := [], returnType := some .double }, accessFlags := 1, code := some k3c11 }
def k3c12 : Code := { maxStack := 2, maxLocals := 1, code := prog_8_method_39_code, exceptionTable := #[], attributes := #[] }
def k3m12 : Method := { name := "raiseStep", desc := "()D", sig := { parameters := [], returnType := some .double }, accessFlags := 1, code := some k3c12 }
def k3c13 : Code := { maxStack := 2, maxLocals := 1, code := prog_8_method_40_code, exceptionTable := #[], attributes := #[] }
def k3m13 : Method := { name := "minRatePerSecond", desc := "()D", sig := { parameters := [], returnType := some .double }, accessFlags := 1, code := some k3c13 }
def k3c14 : Code := { maxStack := 2, maxLocals := 1, code := prog_8_method_41_code, exceptionTable := #[], attributes := #[] }
def k3m14 : Method := { name := "maxRatePerSecond", desc := "()D", sig := { parameters := [], returnType := some .double }, accessFlags := 1, code := some k3c14 }
def k3c15 : Code := { maxStack := 2, maxLocals := 1, code := prog_8_method_42_code, exceptionTable := #[], attributes := #[] }
def k3m15 : Method := { name := "initialRatePerSecond", desc := "()D", sig := { parameters := [], returnType := some .double }, accessFlags := 1, code := some k3c15 }
def k3c16 : Code := { maxStack := 2, maxLocals := 1, code := prog_8_method_43_code, exceptionTable := #[], attributes := #[] }
def k3m16 : Method := { name := "demandReach", desc := "()D", sig := { parameters := [], returnType := some .double }, accessFlags := 1, code := some k3c16 }
def k3c17 : Code := { maxStack := 2, maxLocals := 1, code := prog_8_method_44_code, exceptionTable := #[], attributes := #[] }
def k3m17 : Method := { name := "lowerCutDivisor", desc := "()D", sig := { parameters := [], returnType := some .double }, accessFlags := 1, code := some k3c17 }
def k3c18 : Code := { maxStack := 1, maxLocals := 1, code := prog_8_method_45_code, exceptionTable := #[], attributes := #[] }
def k3m18 : Method := { name := "ownCutRuns", desc := "()I", sig := { parameters := [], returnType := some .int }, accessFlags := 1, code := some k3c18 }
/-- com/example/tolc/tolc/ControllerSettings -/
def k3 : Class := { plain "com/example/tolc/tolc/ControllerSettings" (some 2) with
  accessFlags := 49
  interfaces := #[]
  cf := some (fileOf pool3 8 #[.nestMembers #[204]] #[{ accessFlags := 1, nameIndex := 5, descriptorIndex := 83, attributes := #[] }, { accessFlags := 9, nameIndex := 272, descriptorIndex := 273, attributes := #[] }, { accessFlags := 1, nameIndex := 11, descriptorIndex := 299, attributes := #[] }, { accessFlags := 1, nameIndex := 15, descriptorIndex := 297, attributes := #[] }, { accessFlags := 1, nameIndex := 19, descriptorIndex := 300, attributes := #[] }, { accessFlags := 1, nameIndex := 23, descriptorIndex := 297, attributes := #[] }, { accessFlags := 1, nameIndex := 26, descriptorIndex := 299, attributes := #[] }, { accessFlags := 1, nameIndex := 29, descriptorIndex := 299, attributes := #[] }, { accessFlags := 1, nameIndex := 32, descriptorIndex := 299, attributes := #[] }, { accessFlags := 1, nameIndex := 35, descriptorIndex := 299, attributes := #[] }, { accessFlags := 1, nameIndex := 38, descriptorIndex := 299, attributes := #[] }, { accessFlags := 1, nameIndex := 41, descriptorIndex := 299, attributes := #[] }, { accessFlags := 1, nameIndex := 44, descriptorIndex := 299, attributes := #[] }, { accessFlags := 1, nameIndex := 47, descriptorIndex := 299, attributes := #[] }, { accessFlags := 1, nameIndex := 50, descriptorIndex := 299, attributes := #[] }, { accessFlags := 1, nameIndex := 53, descriptorIndex := 299, attributes := #[] }, { accessFlags := 1, nameIndex := 56, descriptorIndex := 299, attributes := #[] }, { accessFlags := 1, nameIndex := 59, descriptorIndex := 299, attributes := #[] }, { accessFlags := 1, nameIndex := 62, descriptorIndex := 297, attributes := #[] }] 49 2 #[] #[{ accessFlags := 18, nameIndex := 11, descriptorIndex := 12, attributes := #[] }, { accessFlags := 18, nameIndex := 15, descriptorIndex := 16, attributes := #[] }, { accessFlags := 18, nameIndex := 19, descriptorIndex := 20, attributes := #[] }, { accessFlags := 18, nameIndex := 23, descriptorIndex := 16, attributes := #[] }, { accessFlags := 18, nameIndex := 26, descriptorIndex := 12, attributes := #[] }, { accessFlags := 18, nameIndex := 29, descriptorIndex := 12, attributes := #[] }, { accessFlags := 18, nameIndex := 32, descriptorIndex := 12, attributes := #[] }, { accessFlags := 18, nameIndex := 35, descriptorIndex := 12, attributes := #[] }, { accessFlags := 18, nameIndex := 38, descriptorIndex := 12, attributes := #[] }, { accessFlags := 18, nameIndex := 41, descriptorIndex := 12, attributes := #[] }, { accessFlags := 18, nameIndex := 44, descriptorIndex := 12, attributes := #[] }, { accessFlags := 18, nameIndex := 47, descriptorIndex := 12, attributes := #[] }, { accessFlags := 18, nameIndex := 50, descriptorIndex := 12, attributes := #[] }, { accessFlags := 18, nameIndex := 53, descriptorIndex := 12, attributes := #[] }, { accessFlags := 18, nameIndex := 56, descriptorIndex := 12, attributes := #[] }, { accessFlags := 18, nameIndex := 59, descriptorIndex := 12, attributes := #[] }, { accessFlags := 18, nameIndex := 62, descriptorIndex := 16, attributes := #[] }, { accessFlags := 26, nameIndex := 246, descriptorIndex := 16, attributes := #[] }, { accessFlags := 26, nameIndex := 249, descriptorIndex := 20, attributes := #[] }, { accessFlags := 26, nameIndex := 250, descriptorIndex := 16, attributes := #[] }, { accessFlags := 26, nameIndex := 252, descriptorIndex := 12, attributes := #[] }, { accessFlags := 26, nameIndex := 253, descriptorIndex := 12, attributes := #[] }, { accessFlags := 26, nameIndex := 254, descriptorIndex := 12, attributes := #[] }, { accessFlags := 26, nameIndex := 257, descriptorIndex := 12, attributes := #[] }, { accessFlags := 26, nameIndex := 258, descriptorIndex := 12, attributes := #[] }, { accessFlags := 26, nameIndex := 259, descriptorIndex := 12, attributes := #[] }, { accessFlags := 26, nameIndex := 260, descriptorIndex := 12, attributes := #[] }, { accessFlags := 26, nameIndex := 261, descriptorIndex := 12, attributes := #[] }, { accessFlags := 26, nameIndex := 264, descriptorIndex := 12, attributes := #[] }, { accessFlags := 26, nameIndex := 265, descriptorIndex := 12, attributes := #[] }, { accessFlags := 26, nameIndex := 266, descriptorIndex := 12, attributes := #[] }, { accessFlags := 26, nameIndex := 267, descriptorIndex := 12, attributes := #[] }, { accessFlags := 26, nameIndex := 268, descriptorIndex := 16, attributes := #[] }])
  fields := #[{ name := "targetP90Millis", type := .double, accessFlags := 18, slot := 0, constantValue := 0 }, { name := "samplesPerRun", type := .int, accessFlags := 18, slot := 1, constantValue := 0 }, { name := "timeoutMillis", type := .long, accessFlags := 18, slot := 2, constantValue := 0 }, { name := "earlyRunSamples", type := .int, accessFlags := 18, slot := 3, constantValue := 0 }, { name := "smoothing", type := .double, accessFlags := 18, slot := 4, constantValue := 0 }, { name := "completionSmoothing", type := .double, accessFlags := 18, slot := 5, constantValue := 0 }, { name := "cutAboveError", type := .double, accessFlags := 18, slot := 6, constantValue := 0 }, { name := "cutDivisor", type := .double, accessFlags := 18, slot := 7, constantValue := 0 }, { name := "raiseBelowError", type := .double, accessFlags := 18, slot := 8, constantValue := 0 }, { name := "raiseFromError", type := .double, accessFlags := 18, slot := 9, constantValue := 0 }, { name := "raiseStep", type := .double, accessFlags := 18, slot := 10, constantValue := 0 }, { name := "minRatePerSecond", type := .double, accessFlags := 18, slot := 11, constantValue := 0 }, { name := "maxRatePerSecond", type := .double, accessFlags := 18, slot := 12, constantValue := 0 }, { name := "initialRatePerSecond", type := .double, accessFlags := 18, slot := 13, constantValue := 0 }, { name := "demandReach", type := .double, accessFlags := 18, slot := 14, constantValue := 0 }, { name := "lowerCutDivisor", type := .double, accessFlags := 18, slot := 15, constantValue := 0 }, { name := "ownCutRuns", type := .int, accessFlags := 18, slot := 16, constantValue := 0 }, { name := "DEFAULT_SAMPLES_PER_RUN", type := .int, accessFlags := 26, slot := 0, constantValue := 0 }, { name := "DEFAULT_TIMEOUT_MILLIS", type := .long, accessFlags := 26, slot := 1, constantValue := 0 }, { name := "DEFAULT_EARLY_RUN_SAMPLES", type := .int, accessFlags := 26, slot := 2, constantValue := 0 }, { name := "DEFAULT_SMOOTHING", type := .double, accessFlags := 26, slot := 3, constantValue := 0 }, { name := "DEFAULT_COMPLETION_SMOOTHING", type := .double, accessFlags := 26, slot := 4, constantValue := 0 }, { name := "DEFAULT_CUT_ABOVE_ERROR", type := .double, accessFlags := 26, slot := 5, constantValue := 0 }, { name := "DEFAULT_CUT_DIVISOR", type := .double, accessFlags := 26, slot := 6, constantValue := 0 }, { name := "DEFAULT_RAISE_BELOW_ERROR", type := .double, accessFlags := 26, slot := 7, constantValue := 0 }, { name := "DEFAULT_RAISE_FROM_ERROR", type := .double, accessFlags := 26, slot := 8, constantValue := 0 }, { name := "DEFAULT_RAISE_STEP", type := .double, accessFlags := 26, slot := 9, constantValue := 0 }, { name := "DEFAULT_MIN_RATE_PER_SECOND", type := .double, accessFlags := 26, slot := 10, constantValue := 0 }, { name := "DEFAULT_MAX_RATE_PER_SECOND", type := .double, accessFlags := 26, slot := 11, constantValue := 0 }, { name := "DEFAULT_INITIAL_RATE_PER_SECOND", type := .double, accessFlags := 26, slot := 12, constantValue := 0 }, { name := "DEFAULT_DEMAND_REACH", type := .double, accessFlags := 26, slot := 13, constantValue := 0 }, { name := "DEFAULT_LOWER_CUT_DIVISOR", type := .double, accessFlags := 26, slot := 14, constantValue := 0 }, { name := "DEFAULT_OWN_CUT_RUNS", type := .int, accessFlags := 26, slot := 15, constantValue := 0 }]
  methods := #[k3m0, k3m1, k3m2, k3m3, k3m4, k3m5, k3m6, k3m7, k3m8, k3m9, k3m10, k3m11, k3m12, k3m13, k3m14, k3m15, k3m16, k3m17, k3m18]
  instanceTypes := #[.double, .int, .long, .int, .double, .double, .double, .double, .double, .double, .double, .double, .double, .double, .double, .double, .int]
  staticTypes := #[.int, .long, .int, .double, .double, .double, .double, .double, .double, .double, .double, .double, .double, .double, .double, .int]
  resolved := Array.replicate 432 none
  statics := none }

def pool4 : Array CpInfo := pool [(1, u "java/lang/Cloneable"), (0, .class_ 1), (0, u "java/lang/Object"), (0, .class_ 3)] 3

/-- java/lang/Cloneable -/
def k4 : Class := { plain "java/lang/Cloneable" (some 0) with
  accessFlags := 1537
  interfaces := #[]
  cf := some (fileOf pool4 2 #[] #[] 1537 4 #[] #[])
  fields := #[]
  methods := #[]
  instanceTypes := #[]
  staticTypes := #[]
  resolved := Array.replicate 8 none
  statics := none }

def pool5 : Array CpInfo := pool [(1, u "java/io/Serializable"), (0, .class_ 1), (0, u "java/lang/Object"), (0, .class_ 3)] 3

/-- java/io/Serializable -/
def k5 : Class := { plain "java/io/Serializable" (some 0) with
  accessFlags := 1537
  interfaces := #[]
  cf := some (fileOf pool5 2 #[] #[] 1537 4 #[] #[])
  fields := #[]
  methods := #[]
  instanceTypes := #[]
  staticTypes := #[]
  resolved := Array.replicate 8 none
  statics := none }

/-- the primitive byte -/
def k6 : Class := { plain "byte" none with kind := .primitive 'B', accessFlags := 0x411 }
/-- [B -/
def k7 : Class := { plain "[B" (some 0) with kind := .array 6 .byte, interfaces := #[4, 5], accessFlags := 1041 }

/-- the primitive int -/
def k8 : Class := { plain "int" none with kind := .primitive 'I', accessFlags := 0x411 }
/-- [I -/
def k9 : Class := { plain "[I" (some 0) with kind := .array 8 .int, interfaces := #[4, 5], accessFlags := 1041 }

def heap : Heap := #[]
def classes : Array Class := #[k0, k1, k2, k3, k4, k5, k6, k7, k8, k9]
def interned : List (Array UInt16 × Addr) := []
def slotsUsed : Nat := 0
def theMethod : MethodId := ⟨1, 1⟩
def args0 : Array Value := #[.int 5]
def aboutOver (below : List Frame) : State where
  vm := { classes := classes, interned := interned.toArray }
  heap := heap
  slotsUsed := slotsUsed
  threads := #[{ frames := .invoking theMethod args0 :: below }]
def below0 : List Frame := [.native { method := ⟨0, 0⟩, args := #[] }]
def about1 : State := aboutOver below0
def p0 : Program := .bare "" "" ""
def e0 : Env := launch0.env 0 0 0
theorem w_frames : about1.frames = Frame.invoking theMethod args0 :: below0 := rfl
set_option maxRecDepth 65536 in
theorem w_args : argsFit about1.vm theMethod args0 = true := by decide +kernel
set_option maxRecDepth 65536 in
theorem w_heap : heapFits about1 = true := by decide +kernel
set_option maxRecDepth 65536 in
theorem w_runnable : about1.curStatus? = some .runnable := by decide +kernel
set_option maxRecDepth 65536 in
theorem w_alone : about1.alone = true := by decide +kernel
set_option maxRecDepth 65536 in
theorem w_named : about1.methodNamed? x = some theMethod := by decide +kernel
set_option maxRecDepth 65536 in
theorem w_hears : about1.hears theMethod below0 = true := by decide +kernel
set_option maxRecDepth 65536 in
theorem w_ripe : about1.ripe theMethod args0 below0 = true := by decide +kernel
theorem w_running : about1.status = .running := rfl
set_option maxRecDepth 65536 in
theorem w_room : about1.hasRoom e0.platform room_1 = true :=
  launch0.hasRoom_least _ room_1 (by decide +kernel) (by decide +kernel) (by decide +kernel) (by decide +kernel) (by decide +kernel) (by decide +kernel)
theorem allAtoms_all (ts : List Jvm.Cond) (a : Array Jvm.Value) (st : Jvm.State) : (allAtoms ts).before a st = ts.all (fun c => c.before a st) := by
  induction ts with
  | nil => rfl
  | cons c t ih =>
    show (Jvm.Cond.and c (allAtoms t)).before a st = _
    rw [Jvm.Cond.before_and, ih, List.all_cons]
def words1 : List Jvm.Cond := Jvm.Cond.code x code maxLocals ret :: tables_1
/-- a 'code' word, met by the world's own term for the bytes: nothing is compared byte by byte -/
theorem code_word {y : MethodName} {bytes : ByteArray} {mx : Nat} {rt : Option FieldType} {a : Array Value} {s : State} {m : MethodId} {meth : Method} {c : Code} (h1 : s.methodNamed? y = some m) (h2 : s.vm.method? m = some meth) (h3 : meth.code = some c) (h4 : c.code = bytes)
    (h5 : (c.maxLocals == mx && c.exceptionTable.isEmpty && decide (c.maxStack ≤ mostOperands) && decide (meth.sig.returnType = rt) && !meth.locks && decide (parseMethodDescriptor y.desc = some meth.sig)) = true) : (Jvm.Cond.code y bytes mx rt).before a s = true := by
  simp only [Bool.and_eq_true, beq_iff_eq, Bool.not_eq_true', decide_eq_true_eq] at h5
  obtain ⟨⟨⟨⟨⟨g1, g2⟩, g3⟩, g4⟩, g5⟩, g6⟩ := h5
  simp [Cond.before, Cond.holds, Cond.value, h1, h2, h3, h4, g1, g2, g3, g4, g5, g6]
def isCode : Jvm.Cond → Bool
  | .code _ _ _ _ => true
  | _ => false
theorem all_split {L : List Jvm.Cond} {P : Jvm.Cond → Bool} (h1 : L.all (fun c => isCode c || P c) = true) (h2 : ∀ c ∈ L.filter isCode, P c = true) : L.all P = true := by
  refine List.all_eq_true.mpr fun c hc => ?_
  have h := List.all_eq_true.mp h1 c hc
  rcases Bool.eq_false_or_eq_true (isCode c) with hi | hi
  · exact h2 c (List.mem_filter.mpr ⟨hc, hi⟩)
  · simpa [hi] using h
set_option maxRecDepth 65536 in
theorem w_c0 : (Jvm.Cond.code x code maxLocals ret).before args0 about1 = true := code_word (m := ⟨1, 1⟩) (meth := k1m1) (c := k1c1) (by decide +kernel) rfl rfl rfl (by decide +kernel)
set_option maxRecDepth 65536 in
theorem w_c1 : (Jvm.Cond.code ({ cls := "com/example/tolc/tolc/ControllerSettings", name := "forTarget", desc := "(D)Lcom/example/tolc/tolc/ControllerSettings;" } : Jvm.MethodName) prog_8_method_2_code (2 : Nat) (Option.some (Jvm.ClassFile.FieldType.object "com/example/tolc/tolc/ControllerSettings"))).before args0 about1 = true := code_word (m := ⟨3, 1⟩) (meth := k3m1) (c := k3c1) (by decide +kernel) rfl rfl rfl (by decide +kernel)
set_option maxRecDepth 65536 in
theorem w_c2 : (Jvm.Cond.code ({ cls := "com/example/tolc/tolc/ControllerSettings", name := "<init>", desc := "(DIJIDDDDDDDDDDDDI)V" } : Jvm.MethodName) prog_8_method_1_code (32 : Nat) (Option.none : Option Jvm.ClassFile.FieldType)).before args0 about1 = true := code_word (m := ⟨3, 0⟩) (meth := k3m0) (c := k3c0) (by decide +kernel) rfl rfl rfl (by decide +kernel)
set_option maxRecDepth 65536 in
theorem w_c3 : (Jvm.Cond.code ({ cls := "java/lang/Record", name := "<init>", desc := "()V" } : Jvm.MethodName) jdk_30_method_1_code (1 : Nat) (Option.none : Option Jvm.ClassFile.FieldType)).before args0 about1 = true := code_word (m := ⟨2, 0⟩) (meth := k2m0) (c := k2c0) (by decide +kernel) rfl rfl rfl (by decide +kernel)
set_option maxRecDepth 65536 in
theorem w_c4 : (Jvm.Cond.code ({ cls := "java/lang/Object", name := "<init>", desc := "()V" } : Jvm.MethodName) object_method_1_code (1 : Nat) (Option.none : Option Jvm.ClassFile.FieldType)).before args0 about1 = true := code_word (m := ⟨0, 0⟩) (meth := k0m0) (c := k0c0) (by decide +kernel) rfl rfl rfl (by decide +kernel)
set_option maxRecDepth 65536 in
theorem w_c5 : (Jvm.Cond.code ({ cls := "com/example/tolc/tolc/ControllerSettings", name := "targetP90Millis", desc := "()D" } : Jvm.MethodName) prog_8_method_29_code (1 : Nat) (Option.some Jvm.ClassFile.FieldType.double)).before args0 about1 = true := code_word (m := ⟨3, 2⟩) (meth := k3m2) (c := k3c2) (by decide +kernel) rfl rfl rfl (by decide +kernel)
set_option maxRecDepth 65536 in
theorem w_c6 : (Jvm.Cond.code ({ cls := "com/example/tolc/tolc/ControllerSettings", name := "samplesPerRun", desc := "()I" } : Jvm.MethodName) prog_8_method_30_code (1 : Nat) (Option.some Jvm.ClassFile.FieldType.int)).before args0 about1 = true := code_word (m := ⟨3, 3⟩) (meth := k3m3) (c := k3c3) (by decide +kernel) rfl rfl rfl (by decide +kernel)
set_option maxRecDepth 65536 in
theorem w_c7 : (Jvm.Cond.code ({ cls := "com/example/tolc/tolc/ControllerSettings", name := "timeoutMillis", desc := "()J" } : Jvm.MethodName) prog_8_method_31_code (1 : Nat) (Option.some Jvm.ClassFile.FieldType.long)).before args0 about1 = true := code_word (m := ⟨3, 4⟩) (meth := k3m4) (c := k3c4) (by decide +kernel) rfl rfl rfl (by decide +kernel)
set_option maxRecDepth 65536 in
theorem w_c8 : (Jvm.Cond.code ({ cls := "com/example/tolc/tolc/ControllerSettings", name := "earlyRunSamples", desc := "()I" } : Jvm.MethodName) prog_8_method_32_code (1 : Nat) (Option.some Jvm.ClassFile.FieldType.int)).before args0 about1 = true := code_word (m := ⟨3, 5⟩) (meth := k3m5) (c := k3c5) (by decide +kernel) rfl rfl rfl (by decide +kernel)
set_option maxRecDepth 65536 in
theorem w_c9 : (Jvm.Cond.code ({ cls := "com/example/tolc/tolc/ControllerSettings", name := "smoothing", desc := "()D" } : Jvm.MethodName) prog_8_method_33_code (1 : Nat) (Option.some Jvm.ClassFile.FieldType.double)).before args0 about1 = true := code_word (m := ⟨3, 6⟩) (meth := k3m6) (c := k3c6) (by decide +kernel) rfl rfl rfl (by decide +kernel)
set_option maxRecDepth 65536 in
theorem w_c10 : (Jvm.Cond.code ({ cls := "com/example/tolc/tolc/ControllerSettings", name := "completionSmoothing", desc := "()D" } : Jvm.MethodName) prog_8_method_34_code (1 : Nat) (Option.some Jvm.ClassFile.FieldType.double)).before args0 about1 = true := code_word (m := ⟨3, 7⟩) (meth := k3m7) (c := k3c7) (by decide +kernel) rfl rfl rfl (by decide +kernel)
set_option maxRecDepth 65536 in
theorem w_c11 : (Jvm.Cond.code ({ cls := "com/example/tolc/tolc/ControllerSettings", name := "cutAboveError", desc := "()D" } : Jvm.MethodName) prog_8_method_35_code (1 : Nat) (Option.some Jvm.ClassFile.FieldType.double)).before args0 about1 = true := code_word (m := ⟨3, 8⟩) (meth := k3m8) (c := k3c8) (by decide +kernel) rfl rfl rfl (by decide +kernel)
set_option maxRecDepth 65536 in
theorem w_c12 : (Jvm.Cond.code ({ cls := "com/example/tolc/tolc/ControllerSettings", name := "cutDivisor", desc := "()D" } : Jvm.MethodName) prog_8_method_36_code (1 : Nat) (Option.some Jvm.ClassFile.FieldType.double)).before args0 about1 = true := code_word (m := ⟨3, 9⟩) (meth := k3m9) (c := k3c9) (by decide +kernel) rfl rfl rfl (by decide +kernel)
set_option maxRecDepth 65536 in
theorem w_c13 : (Jvm.Cond.code ({ cls := "com/example/tolc/tolc/ControllerSettings", name := "raiseBelowError", desc := "()D" } : Jvm.MethodName) prog_8_method_37_code (1 : Nat) (Option.some Jvm.ClassFile.FieldType.double)).before args0 about1 = true := code_word (m := ⟨3, 10⟩) (meth := k3m10) (c := k3c10) (by decide +kernel) rfl rfl rfl (by decide +kernel)
set_option maxRecDepth 65536 in
theorem w_c14 : (Jvm.Cond.code ({ cls := "com/example/tolc/tolc/ControllerSettings", name := "raiseFromError", desc := "()D" } : Jvm.MethodName) prog_8_method_38_code (1 : Nat) (Option.some Jvm.ClassFile.FieldType.double)).before args0 about1 = true := code_word (m := ⟨3, 11⟩) (meth := k3m11) (c := k3c11) (by decide +kernel) rfl rfl rfl (by decide +kernel)
set_option maxRecDepth 65536 in
theorem w_c15 : (Jvm.Cond.code ({ cls := "com/example/tolc/tolc/ControllerSettings", name := "raiseStep", desc := "()D" } : Jvm.MethodName) prog_8_method_39_code (1 : Nat) (Option.some Jvm.ClassFile.FieldType.double)).before args0 about1 = true := code_word (m := ⟨3, 12⟩) (meth := k3m12) (c := k3c12) (by decide +kernel) rfl rfl rfl (by decide +kernel)
set_option maxRecDepth 65536 in
theorem w_c16 : (Jvm.Cond.code ({ cls := "com/example/tolc/tolc/ControllerSettings", name := "minRatePerSecond", desc := "()D" } : Jvm.MethodName) prog_8_method_40_code (1 : Nat) (Option.some Jvm.ClassFile.FieldType.double)).before args0 about1 = true := code_word (m := ⟨3, 13⟩) (meth := k3m13) (c := k3c13) (by decide +kernel) rfl rfl rfl (by decide +kernel)
set_option maxRecDepth 65536 in
theorem w_c17 : (Jvm.Cond.code ({ cls := "com/example/tolc/tolc/ControllerSettings", name := "maxRatePerSecond", desc := "()D" } : Jvm.MethodName) prog_8_method_41_code (1 : Nat) (Option.some Jvm.ClassFile.FieldType.double)).before args0 about1 = true := code_word (m := ⟨3, 14⟩) (meth := k3m14) (c := k3c14) (by decide +kernel) rfl rfl rfl (by decide +kernel)
set_option maxRecDepth 65536 in
theorem w_c18 : (Jvm.Cond.code ({ cls := "com/example/tolc/tolc/ControllerSettings", name := "initialRatePerSecond", desc := "()D" } : Jvm.MethodName) prog_8_method_42_code (1 : Nat) (Option.some Jvm.ClassFile.FieldType.double)).before args0 about1 = true := code_word (m := ⟨3, 15⟩) (meth := k3m15) (c := k3c15) (by decide +kernel) rfl rfl rfl (by decide +kernel)
set_option maxRecDepth 65536 in
theorem w_c19 : (Jvm.Cond.code ({ cls := "com/example/tolc/tolc/ControllerSettings", name := "demandReach", desc := "()D" } : Jvm.MethodName) prog_8_method_43_code (1 : Nat) (Option.some Jvm.ClassFile.FieldType.double)).before args0 about1 = true := code_word (m := ⟨3, 16⟩) (meth := k3m16) (c := k3c16) (by decide +kernel) rfl rfl rfl (by decide +kernel)
set_option maxRecDepth 65536 in
theorem w_c20 : (Jvm.Cond.code ({ cls := "com/example/tolc/tolc/ControllerSettings", name := "lowerCutDivisor", desc := "()D" } : Jvm.MethodName) prog_8_method_44_code (1 : Nat) (Option.some Jvm.ClassFile.FieldType.double)).before args0 about1 = true := code_word (m := ⟨3, 17⟩) (meth := k3m17) (c := k3c17) (by decide +kernel) rfl rfl rfl (by decide +kernel)
set_option maxRecDepth 65536 in
theorem w_c21 : (Jvm.Cond.code ({ cls := "com/example/tolc/tolc/ControllerSettings", name := "ownCutRuns", desc := "()I" } : Jvm.MethodName) prog_8_method_45_code (1 : Nat) (Option.some Jvm.ClassFile.FieldType.int)).before args0 about1 = true := code_word (m := ⟨3, 18⟩) (meth := k3m18) (c := k3c18) (by decide +kernel) rfl rfl rfl (by decide +kernel)
def codes1 : List Jvm.Cond := [Jvm.Cond.code x code maxLocals ret, Jvm.Cond.code ({ cls := "com/example/tolc/tolc/ControllerSettings", name := "forTarget", desc := "(D)Lcom/example/tolc/tolc/ControllerSettings;" } : Jvm.MethodName) prog_8_method_2_code (2 : Nat) (Option.some (Jvm.ClassFile.FieldType.object "com/example/tolc/tolc/ControllerSettings")), Jvm.Cond.code ({ cls := "com/example/tolc/tolc/ControllerSettings", name := "<init>", desc := "(DIJIDDDDDDDDDDDDI)V" } : Jvm.MethodName) prog_8_method_1_code (32 : Nat) (Option.none : Option Jvm.ClassFile.FieldType), Jvm.Cond.code ({ cls := "java/lang/Record", name := "<init>", desc := "()V" } : Jvm.MethodName) jdk_30_method_1_code (1 : Nat) (Option.none : Option Jvm.ClassFile.FieldType), Jvm.Cond.code ({ cls := "java/lang/Object", name := "<init>", desc := "()V" } : Jvm.MethodName) object_method_1_code (1 : Nat) (Option.none : Option Jvm.ClassFile.FieldType), Jvm.Cond.code ({ cls := "com/example/tolc/tolc/ControllerSettings", name := "targetP90Millis", desc := "()D" } : Jvm.MethodName) prog_8_method_29_code (1 : Nat) (Option.some Jvm.ClassFile.FieldType.double), Jvm.Cond.code ({ cls := "com/example/tolc/tolc/ControllerSettings", name := "samplesPerRun", desc := "()I" } : Jvm.MethodName) prog_8_method_30_code (1 : Nat) (Option.some Jvm.ClassFile.FieldType.int), Jvm.Cond.code ({ cls := "com/example/tolc/tolc/ControllerSettings", name := "timeoutMillis", desc := "()J" } : Jvm.MethodName) prog_8_method_31_code (1 : Nat) (Option.some Jvm.ClassFile.FieldType.long), Jvm.Cond.code ({ cls := "com/example/tolc/tolc/ControllerSettings", name := "earlyRunSamples", desc := "()I" } : Jvm.MethodName) prog_8_method_32_code (1 : Nat) (Option.some Jvm.ClassFile.FieldType.int), Jvm.Cond.code ({ cls := "com/example/tolc/tolc/ControllerSettings", name := "smoothing", desc := "()D" } : Jvm.MethodName) prog_8_method_33_code (1 : Nat) (Option.some Jvm.ClassFile.FieldType.double), Jvm.Cond.code ({ cls := "com/example/tolc/tolc/ControllerSettings", name := "completionSmoothing", desc := "()D" } : Jvm.MethodName) prog_8_method_34_code (1 : Nat) (Option.some Jvm.ClassFile.FieldType.double), Jvm.Cond.code ({ cls := "com/example/tolc/tolc/ControllerSettings", name := "cutAboveError", desc := "()D" } : Jvm.MethodName) prog_8_method_35_code (1 : Nat) (Option.some Jvm.ClassFile.FieldType.double), Jvm.Cond.code ({ cls := "com/example/tolc/tolc/ControllerSettings", name := "cutDivisor", desc := "()D" } : Jvm.MethodName) prog_8_method_36_code (1 : Nat) (Option.some Jvm.ClassFile.FieldType.double), Jvm.Cond.code ({ cls := "com/example/tolc/tolc/ControllerSettings", name := "raiseBelowError", desc := "()D" } : Jvm.MethodName) prog_8_method_37_code (1 : Nat) (Option.some Jvm.ClassFile.FieldType.double), Jvm.Cond.code ({ cls := "com/example/tolc/tolc/ControllerSettings", name := "raiseFromError", desc := "()D" } : Jvm.MethodName) prog_8_method_38_code (1 : Nat) (Option.some Jvm.ClassFile.FieldType.double), Jvm.Cond.code ({ cls := "com/example/tolc/tolc/ControllerSettings", name := "raiseStep", desc := "()D" } : Jvm.MethodName) prog_8_method_39_code (1 : Nat) (Option.some Jvm.ClassFile.FieldType.double), Jvm.Cond.code ({ cls := "com/example/tolc/tolc/ControllerSettings", name := "minRatePerSecond", desc := "()D" } : Jvm.MethodName) prog_8_method_40_code (1 : Nat) (Option.some Jvm.ClassFile.FieldType.double), Jvm.Cond.code ({ cls := "com/example/tolc/tolc/ControllerSettings", name := "maxRatePerSecond", desc := "()D" } : Jvm.MethodName) prog_8_method_41_code (1 : Nat) (Option.some Jvm.ClassFile.FieldType.double), Jvm.Cond.code ({ cls := "com/example/tolc/tolc/ControllerSettings", name := "initialRatePerSecond", desc := "()D" } : Jvm.MethodName) prog_8_method_42_code (1 : Nat) (Option.some Jvm.ClassFile.FieldType.double), Jvm.Cond.code ({ cls := "com/example/tolc/tolc/ControllerSettings", name := "demandReach", desc := "()D" } : Jvm.MethodName) prog_8_method_43_code (1 : Nat) (Option.some Jvm.ClassFile.FieldType.double), Jvm.Cond.code ({ cls := "com/example/tolc/tolc/ControllerSettings", name := "lowerCutDivisor", desc := "()D" } : Jvm.MethodName) prog_8_method_44_code (1 : Nat) (Option.some Jvm.ClassFile.FieldType.double), Jvm.Cond.code ({ cls := "com/example/tolc/tolc/ControllerSettings", name := "ownCutRuns", desc := "()I" } : Jvm.MethodName) prog_8_method_45_code (1 : Nat) (Option.some Jvm.ClassFile.FieldType.int)]
set_option maxRecDepth 65536 in
theorem codes_eq : words1.filter isCode = codes1 := rfl
theorem w_codes : ∀ c ∈ words1.filter isCode, c.before args0 about1 = true := by
  rw [codes_eq]
  intro c hc
  simp only [codes1, List.mem_cons, List.not_mem_nil, or_false] at hc
  rcases hc with rfl | rfl | rfl | rfl | rfl | rfl | rfl | rfl | rfl | rfl | rfl | rfl | rfl | rfl | rfl | rfl | rfl | rfl | rfl | rfl | rfl | rfl
  · exact w_c0
  · exact w_c1
  · exact w_c2
  · exact w_c3
  · exact w_c4
  · exact w_c5
  · exact w_c6
  · exact w_c7
  · exact w_c8
  · exact w_c9
  · exact w_c10
  · exact w_c11
  · exact w_c12
  · exact w_c13
  · exact w_c14
  · exact w_c15
  · exact w_c16
  · exact w_c17
  · exact w_c18
  · exact w_c19
  · exact w_c20
  · exact w_c21
set_option maxRecDepth 65536 in
theorem w_t1 : (words1.take 24).all (fun c => isCode c || c.before args0 about1) = true := by decide +kernel
set_option maxRecDepth 65536 in
theorem w_t2 : ((words1.drop 24).take 24).all (fun c => isCode c || c.before args0 about1) = true := by decide +kernel
set_option maxRecDepth 65536 in
theorem w_t3 : (((words1.drop 24).drop 24).take 24).all (fun c => isCode c || c.before args0 about1) = true := by decide +kernel
set_option maxRecDepth 65536 in
theorem w_t4 : ((((words1.drop 24).drop 24).drop 24).take 24).all (fun c => isCode c || c.before args0 about1) = true := by decide +kernel
set_option maxRecDepth 65536 in
theorem w_t5 : (((((words1.drop 24).drop 24).drop 24).drop 24).take 24).all (fun c => isCode c || c.before args0 about1) = true := by decide +kernel
set_option maxRecDepth 65536 in
theorem w_t6 : ((((((words1.drop 24).drop 24).drop 24).drop 24).drop 24).take 24).all (fun c => isCode c || c.before args0 about1) = true := by decide +kernel
set_option maxRecDepth 65536 in
theorem w_t7 : ((((((words1.drop 24).drop 24).drop 24).drop 24).drop 24).drop 24).all (fun c => isCode c || c.before args0 about1) = true := by decide +kernel
theorem w_tables : (allAtoms (Jvm.Cond.code x code maxLocals ret :: tables_1)).before args0 about1 = true := by
  rw [allAtoms_all]
  show words1.all (fun c => c.before args0 about1) = true
  refine all_split ?_ w_codes
  rw [← List.take_append_drop 24 words1, List.all_append, w_t1, ← List.take_append_drop 24 (words1.drop 24), List.all_append, w_t2, ← List.take_append_drop 24 ((words1.drop 24).drop 24), List.all_append, w_t3, ← List.take_append_drop 24 (((words1.drop 24).drop 24).drop 24), List.all_append, w_t4, ← List.take_append_drop 24 ((((words1.drop 24).drop 24).drop 24).drop 24), List.all_append, w_t5, ← List.take_append_drop 24 (((((words1.drop 24).drop 24).drop 24).drop 24).drop 24), List.all_append, w_t6, w_t7]
  rfl
set_option maxRecDepth 65536 in
theorem w_case : (Jvm.Cond.and given_1 narrow_1).before args0 about1 = true := by decide +kernel
theorem w_applies : (headSpec (Jvm.Cond.code x code maxLocals ret :: tables_1) room_1).applies x e0.platform about1 = true :=
  (Spec.applies_iff w_frames).mpr ⟨w_running, w_runnable, w_alone, w_named, w_hears, w_ripe, w_room, w_tables⟩
theorem atStart : AtStart classFile x code maxLocals ret World_1 tables_1 room_1 Calls_1 rest_1 Pre_1 launch0 p0 e0 about1 theMethod args0 below0 :=
  ⟨lists_1, trivial, launch0.admits_env _ _ _, launch0.least_env, fairChoices_fair.cas, fairChoices_fair.clock, w_frames, w_args, w_heap, w_applies, trivial, trivial, w_case⟩
end start1
theorem witness_1 : WitnessClaimed_1 := ⟨start1.p0, start1.e0, start1.about1, start1.theMethod, start1.args0, start1.below0, start1.atStart⟩
end Jvm.Pilot.@@N@@
