import JvmDerived
import JvmDerived.Pilot.@@N@@Statement
import JvmDerived.Pilot.@@N@@Code
set_option linter.unusedVariables false
set_option linter.unusedSimpArgs false
namespace Jvm.RoadKit
open Sem ClassFile Op Lib Jvm.Stand Jvm.Free Jvm.LawKit
section New
variable {p : Program} {l : Launch} {e : Env} {R : Room} {s : State} {m : MethodId} {args : Array Value} {below : List Frame} {meth : Method} {c : Code} {T : State} {locs : List Loc} {cells slots : Nat}
theorem retI (X : Stand p l e R s m args below meth c T locs cells slots) (hx : p.tables.exec = Jvm.exec) {pc : Nat} {Ls : Array Slot} {z : Int32} {rest : List Value} (hret : meth.sig.returnType = some .int) (hd : decode c.code pc = .ok (.ireturn, 1)) {fs : List Frame}
    (hl : ∀ (f : JFrame) (acts : List Action), f.method = m → f.locked = none → f.entered = [] → (doReturn e (T.setTop f) acts (some (.int z))).1 = T.setFrames fs) : Steps p.tables e below (T.setTop (mkF m pc Ls (.int z :: rest))) (T.setFrames fs) := by
  have hm' : T.vm.method? m = some meth := X.method'
  have hn : narrow .int (.int z) = .int z := rfl
  show Steps p.tables e below (T.setTop { method := m, pc := pc, locals := Ls, stack := _ :: rest, locked := none }) _
  jvm_step X.here [X.here.top, hx, hd, hm', hret, hn]
  first | (intro acts; rw [hl _ acts rfl rfl rfl]) | rw [hl _ _ rfl rfl rfl]
  exact Steps.refl _
end New
end Jvm.RoadKit
namespace Jvm.Pilot.@@N@@
open Jvm Jvm.ClassFile Sem Op Lib Jvm.Free Jvm.Stand Jvm.LawKit Jvm.RoadKit Bundle Jvm.Free.Fl Jvm.Pilot.@@N@@.Jvm.D
theorem d0_0 : decode jdk_29_method_69_code 0 = .ok (.iload_n 0, 1) := by decide +kernel
theorem d0_1 : decode jdk_29_method_69_code 1 = .ok (.iload_n 1, 1) := by decide +kernel
theorem d0_2 : decode jdk_29_method_69_code 2 = .ok (.if_icmp .gt 7, 3) := by decide +kernel
theorem d0_9 : decode jdk_29_method_69_code 9 = .ok (.iload_n 1, 1) := by decide +kernel
theorem d0_10 : decode jdk_29_method_69_code 10 = .ok (.ireturn, 1) := by decide +kernel
def Q_rmin_t (Z : State) (p0 : Int32) (p1 : Int32) (h0 : Heap) (n0 : Nat) (v : Option Value) (h : Heap) (L : List Loc) : Prop := v = some (.int p1) ∧ Fr n0 L ∧ h = h0
theorem ef_rmin_t (m : MethodId) (p0 : Int32) (p1 : Int32) : entryFrame m #[(.int p0), (.int p1)] 2 = mkF m 0 #[.val (.int p0), .val (.int p1)] [] := by first | (simp [entryFrame, mkF, argsToLocals, Value.category]; done) | rfl
set_option maxRecDepth 65536 in
set_option maxHeartbeats 40000000 in
theorem rmin_t (l : Launch) (Z : State) (a0 : Array Value) (hw : ∀ d ∈ tables_1, d.before a0 Z = true) (ws : List Jvm.Cond) (p0 : Int32) (p1 : Int32) (h0 : Heap) (n0 : Nat) (Z0 : n0 ≤ h0.size) (hc2 : p1 < p0) :
    MetFree l (⟨"java/lang/Math", "min", "(II)I"⟩ : MethodName) (head1 (Jvm.Cond.code (⟨"java/lang/Math", "min", "(II)I"⟩ : MethodName) jdk_29_method_69_code 2 (some .int) :: ws) ({ frames := 0, cells := 0, slots := 0, locals := 0 } : Room)) (fun a U => a = #[(.int p0), (.int p1)] ∧ Z.Warmed39 U.vm ∧ U.heap = h0) (fun _ _ _ _ _ => True) (fun _ U o U' => ∃ v L, o = .returned v ∧ Q_rmin_t Z p0 p1 h0 n0 v U'.heap L ∧ FrameEnd U o U' L ({ frames := 0, cells := 0, slots := 0, locals := 0 } : Room).cells ({ frames := 0, cells := 0, slots := 0, locals := 0 } : Room).slots) := by
  refine MetFree.of_bodySF (Jvm.Free.JP.mathPlain rfl (by decide +kernel)) hisR ?_
  intro p e s m args below meth c s₁ Bd hml0 hP hK
  obtain ⟨rfl, hZ, hh⟩ := hP
  have hx := Bd.exec
  have hby := Bd.bytes
  have hml : c.maxLocals = 2 := hml0
  have hown : s.vm.findClass "java/lang/Math" = some m.cls := findClass_of_methodNamed Bd.named
  have hnm := (name_of_methodNamed Bd.named Bd.method).1
  have X0 : Stand p l e ({ frames := 0, cells := 0, slots := 0, locals := 0 } : Room) s m #[(.int p0), (.int p1)] below meth c s₁ [] 0 0 := Stand.of_body Bd
  have e0 : s₁.heap = h0 := by rw [← hh, Bd.state]; rfl
  have N0 := Fr.nil n0
  have pre0 : ∀ t, Steps p.tables e below (s₁.setTop (mkF m 0 #[.val (.int p0), .val (.int p1)] [])) t → Steps p.tables e below (s₁.setTop (entryFrame m #[(.int p0), (.int p1)] 2)) t := fun t k => castTop (ef_rmin_t m p0 p1) k
  obtain ⟨fs, hr, hrun, hended, hW, hsame⟩ := X0.leave (v := some (.int p1)) (fun h => by rw [Bd.returns] at h; cases h)
  refine ⟨_, _, pre0 _ ?_, hrun, hended, _, _, rfl, ?_, ⟨_, rfl⟩, hW, hsame.mono (by decide) (by decide)⟩
  · show Steps p.tables e below (s₁.setTop (mkF m 0 #[.val (.int p0), .val (.int p1)] [])) _
    refine XS.iloadN X0.here hx rfl (hb hby d0_0) rfl ?_
    show Steps p.tables e below (s₁.setTop (mkF m 1 #[.val (.int p0), .val (.int p1)] [(.int p0)])) _
    refine XS.iloadN X0.here hx rfl (hb hby d0_1) rfl ?_
    show Steps p.tables e below (s₁.setTop (mkF m 2 #[.val (.int p0), .val (.int p1)] [(.int p1), (.int p0)])) _
    refine XS.icmpYes X0.here hx rfl (pc0 := 2) (pc' := 9) rfl (hb hby d0_2) rfl (tlt hc2).2.2.1 (by decide) (by decide) ?_
    show Steps p.tables e below (s₁.setTop (mkF m 9 #[.val (.int p0), .val (.int p1)] [])) _
    refine XS.iloadN X0.here hx rfl (hb hby d0_9) rfl ?_
    show Steps p.tables e below (s₁.setTop (mkF m 10 #[.val (.int p0), .val (.int p1)] [(.int p1)])) _
    exact retI X0 hx Bd.returns (hb hby d0_10) hr
  · show Q_rmin_t Z p0 p1 h0 n0 _ s₁.heap _
    rw [e0]
    exact ⟨rfl, N0, rfl⟩
theorem d0_5 : decode jdk_29_method_69_code 5 = .ok (.iload_n 0, 1) := by decide +kernel
theorem d0_6 : decode jdk_29_method_69_code 6 = .ok (.goto 4, 3) := by decide +kernel
def Q_rmin_f (Z : State) (p0 : Int32) (p1 : Int32) (h0 : Heap) (n0 : Nat) (v : Option Value) (h : Heap) (L : List Loc) : Prop := v = some (.int p0) ∧ Fr n0 L ∧ h = h0
theorem ef_rmin_f (m : MethodId) (p0 : Int32) (p1 : Int32) : entryFrame m #[(.int p0), (.int p1)] 2 = mkF m 0 #[.val (.int p0), .val (.int p1)] [] := by first | (simp [entryFrame, mkF, argsToLocals, Value.category]; done) | rfl
set_option maxRecDepth 65536 in
set_option maxHeartbeats 40000000 in
theorem rmin_f (l : Launch) (Z : State) (a0 : Array Value) (hw : ∀ d ∈ tables_1, d.before a0 Z = true) (ws : List Jvm.Cond) (p0 : Int32) (p1 : Int32) (h0 : Heap) (n0 : Nat) (Z0 : n0 ≤ h0.size) (hc2 : ¬ (p1 < p0)) :
    MetFree l (⟨"java/lang/Math", "min", "(II)I"⟩ : MethodName) (head1 (Jvm.Cond.code (⟨"java/lang/Math", "min", "(II)I"⟩ : MethodName) jdk_29_method_69_code 2 (some .int) :: ws) ({ frames := 0, cells := 0, slots := 0, locals := 0 } : Room)) (fun a U => a = #[(.int p0), (.int p1)] ∧ Z.Warmed39 U.vm ∧ U.heap = h0) (fun _ _ _ _ _ => True) (fun _ U o U' => ∃ v L, o = .returned v ∧ Q_rmin_f Z p0 p1 h0 n0 v U'.heap L ∧ FrameEnd U o U' L ({ frames := 0, cells := 0, slots := 0, locals := 0 } : Room).cells ({ frames := 0, cells := 0, slots := 0, locals := 0 } : Room).slots) := by
  refine MetFree.of_bodySF (Jvm.Free.JP.mathPlain rfl (by decide +kernel)) hisR ?_
  intro p e s m args below meth c s₁ Bd hml0 hP hK
  obtain ⟨rfl, hZ, hh⟩ := hP
  have hx := Bd.exec
  have hby := Bd.bytes
  have hml : c.maxLocals = 2 := hml0
  have hown : s.vm.findClass "java/lang/Math" = some m.cls := findClass_of_methodNamed Bd.named
  have hnm := (name_of_methodNamed Bd.named Bd.method).1
  have X0 : Stand p l e ({ frames := 0, cells := 0, slots := 0, locals := 0 } : Room) s m #[(.int p0), (.int p1)] below meth c s₁ [] 0 0 := Stand.of_body Bd
  have e0 : s₁.heap = h0 := by rw [← hh, Bd.state]; rfl
  have N0 := Fr.nil n0
  have pre0 : ∀ t, Steps p.tables e below (s₁.setTop (mkF m 0 #[.val (.int p0), .val (.int p1)] [])) t → Steps p.tables e below (s₁.setTop (entryFrame m #[(.int p0), (.int p1)] 2)) t := fun t k => castTop (ef_rmin_f m p0 p1) k
  obtain ⟨fs, hr, hrun, hended, hW, hsame⟩ := X0.leave (v := some (.int p0)) (fun h => by rw [Bd.returns] at h; cases h)
  refine ⟨_, _, pre0 _ ?_, hrun, hended, _, _, rfl, ?_, ⟨_, rfl⟩, hW, hsame.mono (by decide) (by decide)⟩
  · show Steps p.tables e below (s₁.setTop (mkF m 0 #[.val (.int p0), .val (.int p1)] [])) _
    refine XS.iloadN X0.here hx rfl (hb hby d0_0) rfl ?_
    show Steps p.tables e below (s₁.setTop (mkF m 1 #[.val (.int p0), .val (.int p1)] [(.int p0)])) _
    refine XS.iloadN X0.here hx rfl (hb hby d0_1) rfl ?_
    show Steps p.tables e below (s₁.setTop (mkF m 2 #[.val (.int p0), .val (.int p1)] [(.int p1), (.int p0)])) _
    refine XS.icmpNo X0.here hx rfl (hb hby d0_2) rfl (flt hc2).2.2.1 ?_
    show Steps p.tables e below (s₁.setTop (mkF m 5 #[.val (.int p0), .val (.int p1)] [])) _
    refine XS.iloadN X0.here hx rfl (hb hby d0_5) rfl ?_
    show Steps p.tables e below (s₁.setTop (mkF m 6 #[.val (.int p0), .val (.int p1)] [(.int p0)])) _
    refine XS.goto X0.here hx rfl (pc0 := 6) (pc' := 10) rfl (hb hby d0_6) (by decide) (by decide) ?_
    show Steps p.tables e below (s₁.setTop (mkF m 10 #[.val (.int p0), .val (.int p1)] [(.int p0)])) _
    exact retI X0 hx Bd.returns (hb hby d0_10) hr
  · show Q_rmin_f Z p0 p1 h0 n0 _ s₁.heap _
    rw [e0]
    exact ⟨rfl, N0, rfl⟩
theorem d1_0 : decode jdk_29_method_66_code 0 = .ok (.lload_n 0, 1) := by decide +kernel
theorem d1_1 : decode jdk_29_method_66_code 1 = .ok (.lload_n 2, 1) := by decide +kernel
theorem d1_2 : decode jdk_29_method_66_code 2 = .ok (.lcmp, 1) := by decide +kernel
theorem d1_3 : decode jdk_29_method_66_code 3 = .ok (.ifCond .lt 7, 3) := by decide +kernel
theorem d1_10 : decode jdk_29_method_66_code 10 = .ok (.lload_n 2, 1) := by decide +kernel
theorem d1_11 : decode jdk_29_method_66_code 11 = .ok (.lreturn, 1) := by decide +kernel
def Q_rmaxL_t (Z : State) (q0 : Int64) (q1 : Int64) (h0 : Heap) (n0 : Nat) (v : Option Value) (h : Heap) (L : List Loc) : Prop := v = some (.long q1) ∧ Fr n0 L ∧ h = h0
theorem ef_rmaxL_t (m : MethodId) (q0 : Int64) (q1 : Int64) : entryFrame m #[(.long q0), (.long q1)] 4 = mkF m 0 #[.val (.long q0), .second, .val (.long q1), .second] [] := by first | (simp [entryFrame, mkF, argsToLocals, Value.category]; done) | rfl
set_option maxRecDepth 65536 in
set_option maxHeartbeats 40000000 in
theorem rmaxL_t (l : Launch) (Z : State) (a0 : Array Value) (hw : ∀ d ∈ tables_1, d.before a0 Z = true) (ws : List Jvm.Cond) (q0 : Int64) (q1 : Int64) (h0 : Heap) (n0 : Nat) (Z0 : n0 ≤ h0.size) (hc3 : (lcmpW q0 q1) < (0 : Int32)) :
    MetFree l (⟨"java/lang/Math", "max", "(JJ)J"⟩ : MethodName) (head1 (Jvm.Cond.code (⟨"java/lang/Math", "max", "(JJ)J"⟩ : MethodName) jdk_29_method_66_code 4 (some .long) :: ws) ({ frames := 0, cells := 0, slots := 0, locals := 0 } : Room)) (fun a U => a = #[(.long q0), (.long q1)] ∧ Z.Warmed39 U.vm ∧ U.heap = h0) (fun _ _ _ _ _ => True) (fun _ U o U' => ∃ v L, o = .returned v ∧ Q_rmaxL_t Z q0 q1 h0 n0 v U'.heap L ∧ FrameEnd U o U' L ({ frames := 0, cells := 0, slots := 0, locals := 0 } : Room).cells ({ frames := 0, cells := 0, slots := 0, locals := 0 } : Room).slots) := by
  refine MetFree.of_bodySF (Jvm.Free.JP.mathPlain rfl (by decide +kernel)) hisR ?_
  intro p e s m args below meth c s₁ Bd hml0 hP hK
  obtain ⟨rfl, hZ, hh⟩ := hP
  have hx := Bd.exec
  have hby := Bd.bytes
  have hml : c.maxLocals = 4 := hml0
  have hown : s.vm.findClass "java/lang/Math" = some m.cls := findClass_of_methodNamed Bd.named
  have hnm := (name_of_methodNamed Bd.named Bd.method).1
  have X0 : Stand p l e ({ frames := 0, cells := 0, slots := 0, locals := 0 } : Room) s m #[(.long q0), (.long q1)] below meth c s₁ [] 0 0 := Stand.of_body Bd
  have e0 : s₁.heap = h0 := by rw [← hh, Bd.state]; rfl
  have N0 := Fr.nil n0
  have pre0 : ∀ t, Steps p.tables e below (s₁.setTop (mkF m 0 #[.val (.long q0), .second, .val (.long q1), .second] [])) t → Steps p.tables e below (s₁.setTop (entryFrame m #[(.long q0), (.long q1)] 4)) t := fun t k => castTop (ef_rmaxL_t m q0 q1) k
  obtain ⟨fs, hr, hrun, hended, hW, hsame⟩ := X0.leave (v := some (.long q1)) (fun h => by rw [Bd.returns] at h; cases h)
  refine ⟨_, _, pre0 _ ?_, hrun, hended, _, _, rfl, ?_, ⟨_, rfl⟩, hW, hsame.mono (by decide) (by decide)⟩
  · show Steps p.tables e below (s₁.setTop (mkF m 0 #[.val (.long q0), .second, .val (.long q1), .second] [])) _
    refine XS.lloadN X0.here hx rfl (hb hby d1_0) rfl ?_
    show Steps p.tables e below (s₁.setTop (mkF m 1 #[.val (.long q0), .second, .val (.long q1), .second] [(.long q0)])) _
    refine XS.lloadN X0.here hx rfl (hb hby d1_1) rfl ?_
    show Steps p.tables e below (s₁.setTop (mkF m 2 #[.val (.long q0), .second, .val (.long q1), .second] [(.long q1), (.long q0)])) _
    refine XS.lcmp X0.here hx rfl (hb hby d1_2) rfl ?_
    show Steps p.tables e below (s₁.setTop (mkF m 3 #[.val (.long q0), .second, .val (.long q1), .second] [(.int (lcmpW q0 q1))])) _
    refine XS.ifYes X0.here hx rfl (pc0 := 3) (pc' := 10) rfl (hb hby d1_3) rfl ((if0 _ _).trans (tlt hc3).1) (by decide) (by decide) ?_
    show Steps p.tables e below (s₁.setTop (mkF m 10 #[.val (.long q0), .second, .val (.long q1), .second] [])) _
    refine XS.lloadN X0.here hx rfl (hb hby d1_10) rfl ?_
    show Steps p.tables e below (s₁.setTop (mkF m 11 #[.val (.long q0), .second, .val (.long q1), .second] [(.long q1)])) _
    exact retOut X0 hx Bd.returns rfl (Or.inr (Or.inl ⟨rfl, rfl, _, rfl⟩)) (hb hby d1_11) hr
  · show Q_rmaxL_t Z q0 q1 h0 n0 _ s₁.heap _
    rw [e0]
    exact ⟨rfl, N0, rfl⟩
theorem d1_6 : decode jdk_29_method_66_code 6 = .ok (.lload_n 0, 1) := by decide +kernel
theorem d1_7 : decode jdk_29_method_66_code 7 = .ok (.goto 4, 3) := by decide +kernel
def Q_rmaxL_f (Z : State) (q0 : Int64) (q1 : Int64) (h0 : Heap) (n0 : Nat) (v : Option Value) (h : Heap) (L : List Loc) : Prop := v = some (.long q0) ∧ Fr n0 L ∧ h = h0
theorem ef_rmaxL_f (m : MethodId) (q0 : Int64) (q1 : Int64) : entryFrame m #[(.long q0), (.long q1)] 4 = mkF m 0 #[.val (.long q0), .second, .val (.long q1), .second] [] := by first | (simp [entryFrame, mkF, argsToLocals, Value.category]; done) | rfl
set_option maxRecDepth 65536 in
set_option maxHeartbeats 40000000 in
theorem rmaxL_f (l : Launch) (Z : State) (a0 : Array Value) (hw : ∀ d ∈ tables_1, d.before a0 Z = true) (ws : List Jvm.Cond) (q0 : Int64) (q1 : Int64) (h0 : Heap) (n0 : Nat) (Z0 : n0 ≤ h0.size) (hc3 : ¬ ((lcmpW q0 q1) < (0 : Int32))) :
    MetFree l (⟨"java/lang/Math", "max", "(JJ)J"⟩ : MethodName) (head1 (Jvm.Cond.code (⟨"java/lang/Math", "max", "(JJ)J"⟩ : MethodName) jdk_29_method_66_code 4 (some .long) :: ws) ({ frames := 0, cells := 0, slots := 0, locals := 0 } : Room)) (fun a U => a = #[(.long q0), (.long q1)] ∧ Z.Warmed39 U.vm ∧ U.heap = h0) (fun _ _ _ _ _ => True) (fun _ U o U' => ∃ v L, o = .returned v ∧ Q_rmaxL_f Z q0 q1 h0 n0 v U'.heap L ∧ FrameEnd U o U' L ({ frames := 0, cells := 0, slots := 0, locals := 0 } : Room).cells ({ frames := 0, cells := 0, slots := 0, locals := 0 } : Room).slots) := by
  refine MetFree.of_bodySF (Jvm.Free.JP.mathPlain rfl (by decide +kernel)) hisR ?_
  intro p e s m args below meth c s₁ Bd hml0 hP hK
  obtain ⟨rfl, hZ, hh⟩ := hP
  have hx := Bd.exec
  have hby := Bd.bytes
  have hml : c.maxLocals = 4 := hml0
  have hown : s.vm.findClass "java/lang/Math" = some m.cls := findClass_of_methodNamed Bd.named
  have hnm := (name_of_methodNamed Bd.named Bd.method).1
  have X0 : Stand p l e ({ frames := 0, cells := 0, slots := 0, locals := 0 } : Room) s m #[(.long q0), (.long q1)] below meth c s₁ [] 0 0 := Stand.of_body Bd
  have e0 : s₁.heap = h0 := by rw [← hh, Bd.state]; rfl
  have N0 := Fr.nil n0
  have pre0 : ∀ t, Steps p.tables e below (s₁.setTop (mkF m 0 #[.val (.long q0), .second, .val (.long q1), .second] [])) t → Steps p.tables e below (s₁.setTop (entryFrame m #[(.long q0), (.long q1)] 4)) t := fun t k => castTop (ef_rmaxL_f m q0 q1) k
  obtain ⟨fs, hr, hrun, hended, hW, hsame⟩ := X0.leave (v := some (.long q0)) (fun h => by rw [Bd.returns] at h; cases h)
  refine ⟨_, _, pre0 _ ?_, hrun, hended, _, _, rfl, ?_, ⟨_, rfl⟩, hW, hsame.mono (by decide) (by decide)⟩
  · show Steps p.tables e below (s₁.setTop (mkF m 0 #[.val (.long q0), .second, .val (.long q1), .second] [])) _
    refine XS.lloadN X0.here hx rfl (hb hby d1_0) rfl ?_
    show Steps p.tables e below (s₁.setTop (mkF m 1 #[.val (.long q0), .second, .val (.long q1), .second] [(.long q0)])) _
    refine XS.lloadN X0.here hx rfl (hb hby d1_1) rfl ?_
    show Steps p.tables e below (s₁.setTop (mkF m 2 #[.val (.long q0), .second, .val (.long q1), .second] [(.long q1), (.long q0)])) _
    refine XS.lcmp X0.here hx rfl (hb hby d1_2) rfl ?_
    show Steps p.tables e below (s₁.setTop (mkF m 3 #[.val (.long q0), .second, .val (.long q1), .second] [(.int (lcmpW q0 q1))])) _
    refine XS.ifNo X0.here hx rfl (hb hby d1_3) rfl ((if0 _ _).trans (flt hc3).1) ?_
    show Steps p.tables e below (s₁.setTop (mkF m 6 #[.val (.long q0), .second, .val (.long q1), .second] [])) _
    refine XS.lloadN X0.here hx rfl (hb hby d1_6) rfl ?_
    show Steps p.tables e below (s₁.setTop (mkF m 7 #[.val (.long q0), .second, .val (.long q1), .second] [(.long q0)])) _
    refine XS.goto X0.here hx rfl (pc0 := 7) (pc' := 11) rfl (hb hby d1_7) (by decide) (by decide) ?_
    show Steps p.tables e below (s₁.setTop (mkF m 11 #[.val (.long q0), .second, .val (.long q1), .second] [(.long q0)])) _
    exact retOut X0 hx Bd.returns rfl (Or.inr (Or.inl ⟨rfl, rfl, _, rfl⟩)) (hb hby d1_11) hr
  · show Q_rmaxL_f Z q0 q1 h0 n0 _ s₁.heap _
    rw [e0]
    exact ⟨rfl, N0, rfl⟩
def Q_rmaxL (Z : State) (q0 : Int64) (q1 : Int64) (h0 : Heap) (n0 : Nat) (v : Option Value) (h : Heap) (L : List Loc) : Prop := v = some (.long (if (lcmpW q0 q1) < (0 : Int32) then q1 else q0)) ∧ Fr n0 L ∧ h = h0
theorem rmaxL (l : Launch) (Z : State) (a0 : Array Value) (hw : ∀ d ∈ tables_1, d.before a0 Z = true) (ws : List Jvm.Cond) (q0 : Int64) (q1 : Int64) (h0 : Heap) (n0 : Nat) (Z0 : n0 ≤ h0.size) :
    MetFree l (⟨"java/lang/Math", "max", "(JJ)J"⟩ : MethodName) (head1 (Jvm.Cond.code (⟨"java/lang/Math", "max", "(JJ)J"⟩ : MethodName) jdk_29_method_66_code 4 (some .long) :: ws) ({ frames := 0, cells := 0, slots := 0, locals := 0 } : Room)) (fun a U => a = #[(.long q0), (.long q1)] ∧ Z.Warmed39 U.vm ∧ U.heap = h0) (fun _ _ _ _ _ => True) (fun _ U o U' => ∃ v L, o = .returned v ∧ Q_rmaxL Z q0 q1 h0 n0 v U'.heap L ∧ FrameEnd U o U' L ({ frames := 0, cells := 0, slots := 0, locals := 0 } : Room).cells ({ frames := 0, cells := 0, slots := 0, locals := 0 } : Room).slots) := by
  by_cases hc3 : (lcmpW q0 q1) < (0 : Int32)
  · simp only [Q_rmaxL, if_pos hc3]; exact rmaxL_t l Z a0 hw ws q0 q1 h0 n0 Z0 hc3
  · simp only [Q_rmaxL, if_neg hc3]; exact rmaxL_f l Z a0 hw ws q0 q1 h0 n0 Z0 hc3
theorem d2_0 : decode prog_15_method_1_code 0 = .ok (.aload_n 0, 1) := by decide +kernel
theorem d2_1 : decode prog_15_method_1_code 1 = .ok (.invokespecial 1, 3) := by decide +kernel
theorem d2_4 : decode prog_15_method_1_code 4 = .ok (.aload_n 0, 1) := by decide +kernel
theorem d2_5 : decode prog_15_method_1_code 5 = .ok (.bipush 100, 2) := by decide +kernel
theorem d2_7 : decode prog_15_method_1_code 7 = .ok (.newarray .long, 2) := by decide +kernel
theorem d2_9 : decode prog_15_method_1_code 9 = .ok (.putfield 9, 3) := by decide +kernel
theorem d2_12 : decode prog_15_method_1_code 12 = .ok (.return_, 1) := by decide +kernel
theorem pn_0 : plainName "com/example/tolc/tolc/RecentResponseTimes" = true := by first | (simp [plainName, overriddenIn]; done) | decide +kernel
def Q_rmI (Z : State) (ob : Addr) (u_nanos_ob : Value) (h0 : Heap) (n0 : Nat) (v : Option Value) (h : Heap) (L : List Loc) : Prop := ∃ na : Addr, ∃ ka : ClassId, v = none ∧ Fr n0 L ∧ h0.size ≤ na ∧ Keep h0 h [ob] ∧ Exa Z h ob "com/example/tolc/tolc/RecentResponseTimes" ∧ Fld Z h ob "com/example/tolc/tolc/RecentResponseTimes" "nanos" "[J" (.ref na) ∧ Fld Z h ob "com/example/tolc/tolc/RecentResponseTimes" "next" "I" (.int (0 : Int32)) ∧ Fld Z h ob "com/example/tolc/tolc/RecentResponseTimes" "size" "I" (.int (0 : Int32)) ∧ Arv Z h na ka .long (100 : Int32) [(.long (0 : Int64)), (.long (0 : Int64)), (.long (0 : Int64)), (.long (0 : Int64))] (.long (0 : Int64))
theorem ef_rmI (m : MethodId) (ob : Addr) : entryFrame m #[(.ref ob)] 1 = mkF m 0 #[.val (.ref ob)] [] := by first | (simp [entryFrame, mkF, argsToLocals, Value.category]; done) | rfl
set_option maxRecDepth 65536 in
set_option maxHeartbeats 40000000 in
theorem rmI (l : Launch) (Z : State) (a0 : Array Value) (hw : ∀ d ∈ tables_1, d.before a0 Z = true) (ws : List Jvm.Cond) (ob : Addr) (u_nanos_ob : Value) (h0 : Heap) (n0 : Nat) (Z0 : n0 ≤ h0.size) (F_next_ob : Fld Z h0 ob "com/example/tolc/tolc/RecentResponseTimes" "next" "I" (.int (0 : Int32))) (F_size_ob : Fld Z h0 ob "com/example/tolc/tolc/RecentResponseTimes" "size" "I" (.int (0 : Int32))) (F_nanos_ob : Fld Z h0 ob "com/example/tolc/tolc/RecentResponseTimes" "nanos" "[J" u_nanos_ob) (E_ob : Exa Z h0 ob "com/example/tolc/tolc/RecentResponseTimes") (g_ob : n0 ≤ ob) :
    MetFree l (⟨"com/example/tolc/tolc/RecentResponseTimes", "<init>", "()V"⟩ : MethodName) (head1 (Jvm.Cond.code (⟨"com/example/tolc/tolc/RecentResponseTimes", "<init>", "()V"⟩ : MethodName) prog_15_method_1_code 1 none :: ws) ({ frames := 1, cells := 1, slots := 100, locals := 12 } : Room)) (fun a U => a = #[(.ref ob)] ∧ Z.Warmed39 U.vm ∧ U.heap = h0) (fun _ _ _ _ _ => True) (fun _ U o U' => ∃ v L, o = .returned v ∧ Q_rmI Z ob u_nanos_ob h0 n0 v U'.heap L ∧ FrameEnd U o U' L ({ frames := 1, cells := 1, slots := 100, locals := 12 } : Room).cells ({ frames := 1, cells := 1, slots := 100, locals := 12 } : Room).slots) := by
  refine MetFree.of_bodySF (plainFor_of_name pn_0) hisR ?_
  intro p e s m args below meth c s₁ Bd hml0 hP hK
  obtain ⟨rfl, hZ, hh⟩ := hP
  have hx := Bd.exec
  have hby := Bd.bytes
  have hml : c.maxLocals = 1 := hml0
  have hown : s.vm.findClass "com/example/tolc/tolc/RecentResponseTimes" = some m.cls := findClass_of_methodNamed Bd.named
  have hnm := (name_of_methodNamed Bd.named Bd.method).1
  have X0 : Stand p l e ({ frames := 1, cells := 1, slots := 100, locals := 12 } : Room) s m #[(.ref ob)] below meth c s₁ [] 0 0 := Stand.of_body Bd
  have e0 : s₁.heap = h0 := by rw [← hh, Bd.state]; rfl
  have N0 := Fr.nil n0
  have pre0 : ∀ t, Steps p.tables e below (s₁.setTop (mkF m 0 #[.val (.ref ob)] [])) t → Steps p.tables e below (s₁.setTop (entryFrame m #[(.ref ob)] 1)) t := fun t k => castTop (ef_rmI m ob) k
  obtain ⟨T1, X1, e1, st1⟩ := initO X0 hx hZ hown (hw _ (List.mem_of_getElem? (i := 7) rfl)) (hw _ (List.mem_of_getElem? (i := 8) rfl)) (hw _ (List.mem_of_getElem? (i := 9) rfl)) e0 (g := (mkF m 1 #[.val (.ref ob)] [(.ref ob)])) rfl (by rw [hml]; rfl) rfl (hb hby d2_1) (by decide) (W := 0) (by show 2 * 0 + _ ≤ _; exact Nat.le_of_eq rfl) (by decide)
  obtain ⟨T2, h2, k2, X2, e2, E2, A2, st2⟩ := newP X1 hx hZ (hw _ (List.mem_of_getElem? (i := 10) rfl)) e1 (g := (mkF m 7 #[.val (.ref ob)] [(.int (100 : Int32)), (.ref ob)])) rfl (hb hby d2_7) rfl (by decide) (cap := 100) (by decide) (by decide) (by decide) (by decide)
  obtain ⟨b2, g2⟩ : ∃ z, z = h0.size := ⟨_, rfl⟩
  rw [← g2] at A2 st2
  have V2 : Arv Z h2 b2 k2 .long (100 : Int32) [(.long (0 : Int64)), (.long (0 : Int64)), (.long (0 : Int64)), (.long (0 : Int64))] (.long (0 : Int64)) := (Arv.new A2 (by decide)).pad (pad_rep [] (.long (0 : Int64)) 4)
  have f3 : Fld Z h2 ob "com/example/tolc/tolc/RecentResponseTimes" "nanos" "[J" u_nanos_ob := (F_nanos_ob.ext E2)
  have f4 : Exa Z h2 ob "com/example/tolc/tolc/RecentResponseTimes" := (E_ob.ext E2)
  obtain ⟨T5, h5, X5, e5, W5, st5⟩ := putF X2 hx hZ hown (host := "") (Or.inl (hw _ (List.mem_of_getElem? (i := 11) rfl))) Via.refl e2 f3 f4 (Or.inr ⟨(hw _ (List.mem_of_getElem? (i := 12) rfl)), rfl, hnm⟩) (hw _ (List.mem_of_getElem? (i := 2) rfl)) (ty := (.array .long)) (by decide) rfl rfl (g := (mkF m 9 #[.val (.ref ob)] [(.ref b2), (.ref ob)])) rfl rfl (hb hby d2_9)
  have Fw5 := f3.same W5
  have N5 := Fr.snoc X5 N0 g_ob
  have f6 : Exa Z h5 ob "com/example/tolc/tolc/RecentResponseTimes" := (f4.wr W5)
  have f7 : Fld Z h5 ob "com/example/tolc/tolc/RecentResponseTimes" "next" "I" (.int (0 : Int32)) := ((F_next_ob.ext E2).other W5 (Or.inr (slot_ne (Or.inl (hw _ (List.mem_of_getElem? (i := 19) rfl))) (Or.inr (hw _ (List.mem_of_getElem? (i := 12) rfl))) (by decide) (t := .int) (t' := (.array .long)) (by decide) (by decide))))
  have f8 : Fld Z h5 ob "com/example/tolc/tolc/RecentResponseTimes" "size" "I" (.int (0 : Int32)) := ((F_size_ob.ext E2).other W5 (Or.inr (slot_ne (Or.inl (hw _ (List.mem_of_getElem? (i := 21) rfl))) (Or.inr (hw _ (List.mem_of_getElem? (i := 12) rfl))) (by decide) (t := .int) (t' := (.array .long)) (by decide) (by decide))))
  have f9 : Arv Z h5 b2 k2 .long (100 : Int32) [(.long (0 : Int64)), (.long (0 : Int64)), (.long (0 : Int64)), (.long (0 : Int64))] (.long (0 : Int64)) := (V2.other W5 (Ne.symm (Nat.ne_of_lt (Nat.lt_of_lt_of_le F_next_ob.lt (Nat.le_of_eq g2.symm)))))
  obtain ⟨fs, hr, hrun, hended, hW, hsame⟩ := X5.leave (v := none) (fun _ => rfl)
  refine ⟨_, _, pre0 _ ?_, hrun, hended, _, _, rfl, ?_, ⟨_, rfl⟩, hW, hsame.mono (by decide) (by decide)⟩
  · show Steps p.tables e below (s₁.setTop (mkF m 0 #[.val (.ref ob)] [])) _
    refine XS.aloadN X0.here hx rfl (hb hby d2_0) rfl rfl ?_
    show Steps p.tables e below (s₁.setTop (mkF m 1 #[.val (.ref ob)] [(.ref ob)])) _
    refine st1 _ ?_
    show Steps p.tables e below (T1.setTop (mkF m 4 #[.val (.ref ob)] [])) _
    refine XS.aloadN X1.here hx rfl (hb hby d2_4) rfl rfl ?_
    show Steps p.tables e below (T1.setTop (mkF m 5 #[.val (.ref ob)] [(.ref ob)])) _
    refine XS.bipush X1.here hx rfl (hb hby d2_5) ?_
    show Steps p.tables e below (T1.setTop (mkF m 7 #[.val (.ref ob)] [(.int (100 : Int32)), (.ref ob)])) _
    refine st2 _ ?_
    show Steps p.tables e below (T2.setTop (mkF m 9 #[.val (.ref ob)] [(.ref b2), (.ref ob)])) _
    refine st5 _ ?_
    show Steps p.tables e below (T5.setTop (mkF m 12 #[.val (.ref ob)] [])) _
    exact X5.returnOut hx Bd.returns (hb hby d2_12) hr
  · show Q_rmI Z ob u_nanos_ob h0 n0 _ T5.heap _
    rw [e5]
    exact ⟨b2, k2, rfl, N5, (Nat.le_trans (Nat.le_refl h0.size) (Nat.le_of_eq g2.symm)), (((Keep.refl h0 [ob]).ext E2).wr W5 (Or.inl (List.mem_of_getElem? (i := 0) rfl))), f6, Fw5, f7, f8, f9⟩
theorem d3_0 : decode prog_15_method_2_code 0 = .ok (.aload_n 0, 1) := by decide +kernel
theorem d3_1 : decode prog_15_method_2_code 1 = .ok (.getfield 9, 3) := by decide +kernel
theorem d3_4 : decode prog_15_method_2_code 4 = .ok (.aload_n 0, 1) := by decide +kernel
theorem d3_5 : decode prog_15_method_2_code 5 = .ok (.getfield 13, 3) := by decide +kernel
theorem d3_8 : decode prog_15_method_2_code 8 = .ok (.lload_n 1, 1) := by decide +kernel
theorem d3_9 : decode prog_15_method_2_code 9 = .ok (.lastore, 1) := by decide +kernel
theorem d3_10 : decode prog_15_method_2_code 10 = .ok (.aload_n 0, 1) := by decide +kernel
theorem d3_11 : decode prog_15_method_2_code 11 = .ok (.aload_n 0, 1) := by decide +kernel
theorem d3_12 : decode prog_15_method_2_code 12 = .ok (.getfield 13, 3) := by decide +kernel
theorem d3_15 : decode prog_15_method_2_code 15 = .ok (.iconst 1, 1) := by decide +kernel
theorem d3_16 : decode prog_15_method_2_code 16 = .ok (.iadd, 1) := by decide +kernel
theorem d3_17 : decode prog_15_method_2_code 17 = .ok (.bipush 100, 2) := by decide +kernel
theorem d3_19 : decode prog_15_method_2_code 19 = .ok (.irem, 1) := by decide +kernel
theorem d3_20 : decode prog_15_method_2_code 20 = .ok (.putfield 13, 3) := by decide +kernel
theorem d3_23 : decode prog_15_method_2_code 23 = .ok (.aload_n 0, 1) := by decide +kernel
theorem d3_24 : decode prog_15_method_2_code 24 = .ok (.aload_n 0, 1) := by decide +kernel
theorem d3_25 : decode prog_15_method_2_code 25 = .ok (.getfield 17, 3) := by decide +kernel
theorem d3_28 : decode prog_15_method_2_code 28 = .ok (.iconst 1, 1) := by decide +kernel
theorem d3_29 : decode prog_15_method_2_code 29 = .ok (.iadd, 1) := by decide +kernel
theorem d3_30 : decode prog_15_method_2_code 30 = .ok (.bipush 100, 2) := by decide +kernel
theorem d3_32 : decode prog_15_method_2_code 32 = .ok (.invokestatic 20, 3) := by decide +kernel
theorem pd_0 : parseMethodDescriptor "(II)I" = some ⟨[.int, .int], some .int⟩ := by decide +kernel
theorem d3_35 : decode prog_15_method_2_code 35 = .ok (.putfield 17, 3) := by decide +kernel
theorem d3_38 : decode prog_15_method_2_code 38 = .ok (.return_, 1) := by decide +kernel
def Q_rmA0 (Z : State) (ob : Addr) (q1 : Int64) (na : Addr) (ka : ClassId) (x0 : Int64) (x1 : Int64) (x2 : Int64) (x3 : Int64) (h0 : Heap) (n0 : Nat) (v : Option Value) (h : Heap) (L : List Loc) : Prop := v = none ∧ Fr n0 L ∧ Keep h0 h [na, ob] ∧ Exa Z h ob "com/example/tolc/tolc/RecentResponseTimes" ∧ Fld Z h ob "com/example/tolc/tolc/RecentResponseTimes" "nanos" "[J" (.ref na) ∧ Fld Z h ob "com/example/tolc/tolc/RecentResponseTimes" "next" "I" (.int (1 : Int32)) ∧ Fld Z h ob "com/example/tolc/tolc/RecentResponseTimes" "size" "I" (.int (1 : Int32)) ∧ Arv Z h na ka .long (100 : Int32) [(.long q1), (.long x1), (.long x2), (.long x3)] (.long (0 : Int64))
theorem ef_rmA0 (m : MethodId) (ob : Addr) (q1 : Int64) : entryFrame m #[(.ref ob), (.long q1)] 3 = mkF m 0 #[.val (.ref ob), .val (.long q1), .second] [] := by first | (simp [entryFrame, mkF, argsToLocals, Value.category]; done) | rfl
set_option maxRecDepth 65536 in
set_option maxHeartbeats 40000000 in
theorem rmA0 (l : Launch) (Z : State) (a0 : Array Value) (hw : ∀ d ∈ tables_1, d.before a0 Z = true) (ws : List Jvm.Cond) (ob : Addr) (q1 : Int64) (na : Addr) (ka : ClassId) (x0 : Int64) (x1 : Int64) (x2 : Int64) (x3 : Int64) (h0 : Heap) (n0 : Nat) (Z0 : n0 ≤ h0.size) (E_ob : Exa Z h0 ob "com/example/tolc/tolc/RecentResponseTimes") (F_nanos_ob : Fld Z h0 ob "com/example/tolc/tolc/RecentResponseTimes" "nanos" "[J" (.ref na)) (F_next_ob : Fld Z h0 ob "com/example/tolc/tolc/RecentResponseTimes" "next" "I" (.int (0 : Int32))) (F_size_ob : Fld Z h0 ob "com/example/tolc/tolc/RecentResponseTimes" "size" "I" (.int (0 : Int32))) (V_na : Arv Z h0 na ka .long (100 : Int32) [(.long x0), (.long x1), (.long x2), (.long x3)] (.long (0 : Int64))) (g_na : n0 ≤ na) (ne_ob_na : ob ≠ na) (g_ob : n0 ≤ ob) :
    MetFree l (⟨"com/example/tolc/tolc/RecentResponseTimes", "add", "(J)V"⟩ : MethodName) (head1 (Jvm.Cond.code (⟨"com/example/tolc/tolc/RecentResponseTimes", "add", "(J)V"⟩ : MethodName) prog_15_method_2_code 3 none :: ws) ({ frames := 1, cells := 0, slots := 0, locals := 14 } : Room)) (fun a U => a = #[(.ref ob), (.long q1)] ∧ Z.Warmed39 U.vm ∧ U.heap = h0) (fun _ _ _ _ _ => True) (fun _ U o U' => ∃ v L, o = .returned v ∧ Q_rmA0 Z ob q1 na ka x0 x1 x2 x3 h0 n0 v U'.heap L ∧ FrameEnd U o U' L ({ frames := 1, cells := 0, slots := 0, locals := 14 } : Room).cells ({ frames := 1, cells := 0, slots := 0, locals := 14 } : Room).slots) := by
  refine MetFree.of_bodySF (plainFor_of_name pn_0) hisR ?_
  intro p e s m args below meth c s₁ Bd hml0 hP hK
  obtain ⟨rfl, hZ, hh⟩ := hP
  have hx := Bd.exec
  have hby := Bd.bytes
  have hml : c.maxLocals = 3 := hml0
  have hown : s.vm.findClass "com/example/tolc/tolc/RecentResponseTimes" = some m.cls := findClass_of_methodNamed Bd.named
  have hnm := (name_of_methodNamed Bd.named Bd.method).1
  have X0 : Stand p l e ({ frames := 1, cells := 0, slots := 0, locals := 14 } : Room) s m #[(.ref ob), (.long q1)] below meth c s₁ [] 0 0 := Stand.of_body Bd
  have e0 : s₁.heap = h0 := by rw [← hh, Bd.state]; rfl
  have N0 := Fr.nil n0
  have pre0 : ∀ t, Steps p.tables e below (s₁.setTop (mkF m 0 #[.val (.ref ob), .val (.long q1), .second] [])) t → Steps p.tables e below (s₁.setTop (entryFrame m #[(.ref ob), (.long q1)] 3)) t := fun t k => castTop (ef_rmA0 m ob q1) k
  obtain ⟨T1, X1, e1, st1⟩ := getF X0 hx hZ hown (host := "") (Or.inl (hw _ (List.mem_of_getElem? (i := 11) rfl))) Via.refl e0 F_nanos_ob (g := (mkF m 1 #[.val (.ref ob), .val (.long q1), .second] [(.ref ob)])) rfl rfl (hb hby d3_1)
  obtain ⟨T2, X2, e2, st2⟩ := getF X1 hx hZ hown (host := "") (Or.inl (hw _ (List.mem_of_getElem? (i := 18) rfl))) Via.refl e1 F_next_ob (g := (mkF m 5 #[.val (.ref ob), .val (.long q1), .second] [(.ref ob), (.ref na)])) rfl rfl (hb hby d3_5)
  have Vc3 := V_na
  obtain ⟨cl3, Ar3, q3, S3, M3, H3, G3⟩ := Vc3
  have hin3 : ¬ ((0 : Int32) < 0 ∨ cl3.slots.size ≤ ((0 : Int32)).toNatClampNeg) := inb_of S3 ⟨by decide, by decide⟩
  obtain ⟨T3, h3, X3, e3, W3, st3⟩ := stJ X2 hx hZ e2 Ar3 (j := (0 : Int32)) hin3 (g := (mkF m 9 #[.val (.ref ob), .val (.long q1), .second] [(.long q1), (.int (0 : Int32)), (.ref na)])) rfl rfl (hb hby d3_9)
  have V3 : Arv Z h3 na ka .long (100 : Int32) [(.long q1), (.long x1), (.long x2), (.long x3)] (.long (0 : Int64)) := Arv.set Ar3 q3 S3 M3 H3 G3 rfl W3 0 rfl (Nat.le_of_ble_eq_true rfl)
  have N3 := Fr.snoc X3 N0 g_na
  have f4 : Fld Z h3 ob "com/example/tolc/tolc/RecentResponseTimes" "next" "I" (.int (0 : Int32)) := (F_next_ob.other W3 (Or.inl ne_ob_na))
  obtain ⟨T5, X5, e5, st5⟩ := getF X3 hx hZ hown (host := "") (Or.inl (hw _ (List.mem_of_getElem? (i := 18) rfl))) Via.refl e3 f4 (g := (mkF m 12 #[.val (.ref ob), .val (.long q1), .second] [(.ref ob), (.ref ob)])) rfl rfl (hb hby d3_12)
  have f6 : Exa Z h3 ob "com/example/tolc/tolc/RecentResponseTimes" := (E_ob.wr W3)
  obtain ⟨T7, h7, X7, e7, W7, st7⟩ := putF X5 hx hZ hown (host := "") (Or.inl (hw _ (List.mem_of_getElem? (i := 18) rfl))) Via.refl e5 f4 f6 (Or.inl (hw _ (List.mem_of_getElem? (i := 19) rfl))) (hw _ (List.mem_of_getElem? (i := 2) rfl)) (ty := .int) (by decide) rfl rfl (g := (mkF m 20 #[.val (.ref ob), .val (.long q1), .second] [(.int (1 : Int32)), (.ref ob)])) rfl rfl (hb hby d3_20)
  have Fw7 := f4.same W7
  have N7 := Fr.snoc X7 N3 g_ob
  have f8 : Fld Z h7 ob "com/example/tolc/tolc/RecentResponseTimes" "size" "I" (.int (0 : Int32)) := ((F_size_ob.other W3 (Or.inl ne_ob_na)).other W7 (Or.inr (slot_ne (Or.inl (hw _ (List.mem_of_getElem? (i := 21) rfl))) (Or.inl (hw _ (List.mem_of_getElem? (i := 19) rfl))) (by decide) (t := .int) (t' := .int) (by decide) (by decide))))
  obtain ⟨T9, X9, e9, st9⟩ := getF X7 hx hZ hown (host := "") (Or.inl (hw _ (List.mem_of_getElem? (i := 20) rfl))) Via.refl e7 f8 (g := (mkF m 25 #[.val (.ref ob), .val (.long q1), .second] [(.ref ob), (.ref ob)])) rfl rfl (hb hby d3_25)
  obtain ⟨_, _, ⟨T10, L10, k10, n10⟩, -, X10, ⟨Lc10, hQ10, l10, y10, z10⟩, st10⟩ := Jvm.LawKit.callS X9 hx (y := (⟨"java/lang/Math", "min", "(II)I"⟩ : MethodName)) hown (mvT hZ (hw _ (List.mem_of_getElem? (i := 22) rfl))) (mvT hZ (hw _ (List.mem_of_getElem? (i := 23) rfl))) (mvT hZ (hw _ (List.mem_of_getElem? (i := 24) rfl))) (mvT hZ (hw _ (List.mem_of_getElem? (i := 25) rfl))) (by decide) (backOf (W := 1) (rmin_f l Z a0 hw [] (1 : Int32) (100 : Int32) h7 n0 (Nat.le_trans (Nat.le_trans Z0 (Keep.of_wr W3).1) (Keep.of_wr W7).1) (by first | assumption | decide)) hZ (hw _ (List.mem_of_getElem? (i := 25) rfl)) (hw _ (List.mem_of_getElem? (i := 24) rfl)) (by decide) (by decide)) (g := (mkF m 32 #[.val (.ref ob), .val (.long q1), .second] [(.int (100 : Int32)), (.int (1 : Int32)), (.ref ob)])) rfl (by rw [hml]; rfl) (argsL := [(.int (1 : Int32)), (.int (100 : Int32))]) (rest := [(.ref ob)]) (lenOf pd_0 rfl) rfl (by show 2 * 0 + _ ≤ _; exact Nat.le_of_eq rfl) (hb hby d3_32) (fun _ _ => ⟨rfl, e9, (by decide : 0 + 0 ≤ _), (by decide : 0 + 0 ≤ _)⟩)
  dsimp only [Pt.U, Pt.locs, Pt.cells, Pt.slots] at X10 l10 y10 z10 st10 hQ10
  subst l10 y10 z10
  obtain ⟨rfl, Nq10, e10⟩ := hQ10
  have N10 := Fr.app N7 Nq10
  have f11 : Exa Z h7 ob "com/example/tolc/tolc/RecentResponseTimes" := (f6.wr W7)
  obtain ⟨T12, h12, X12, e12, W12, st12⟩ := putF X10 hx hZ hown (host := "") (Or.inl (hw _ (List.mem_of_getElem? (i := 20) rfl))) Via.refl e10 f8 f11 (Or.inl (hw _ (List.mem_of_getElem? (i := 21) rfl))) (hw _ (List.mem_of_getElem? (i := 2) rfl)) (ty := .int) (by decide) rfl rfl (g := (mkF m 35 #[.val (.ref ob), .val (.long q1), .second] [(.int (1 : Int32)), (.ref ob)])) rfl rfl (hb hby d3_35)
  have Fw12 := f8.same W12
  have N12 := Fr.snoc X12 N10 g_ob
  have f13 : Exa Z h12 ob "com/example/tolc/tolc/RecentResponseTimes" := (f11.wr W12)
  have f14 : Fld Z h12 ob "com/example/tolc/tolc/RecentResponseTimes" "nanos" "[J" (.ref na) := (((F_nanos_ob.other W3 (Or.inl ne_ob_na)).other W7 (Or.inr (slot_ne (Or.inr (hw _ (List.mem_of_getElem? (i := 12) rfl))) (Or.inl (hw _ (List.mem_of_getElem? (i := 19) rfl))) (by decide) (t := (.array .long)) (t' := .int) (by decide) (by decide)))).other W12 (Or.inr (slot_ne (Or.inr (hw _ (List.mem_of_getElem? (i := 12) rfl))) (Or.inl (hw _ (List.mem_of_getElem? (i := 21) rfl))) (by decide) (t := (.array .long)) (t' := .int) (by decide) (by decide))))
  have f15 : Fld Z h12 ob "com/example/tolc/tolc/RecentResponseTimes" "next" "I" (.int (1 : Int32)) := (Fw7.other W12 (Or.inr (slot_ne (Or.inl (hw _ (List.mem_of_getElem? (i := 19) rfl))) (Or.inl (hw _ (List.mem_of_getElem? (i := 21) rfl))) (by decide) (t := .int) (t' := .int) (by decide) (by decide))))
  have f16 : Arv Z h12 na ka .long (100 : Int32) [(.long q1), (.long x1), (.long x2), (.long x3)] (.long (0 : Int64)) := ((V3.other W7 (Ne.symm ne_ob_na)).other W12 (Ne.symm ne_ob_na))
  obtain ⟨fs, hr, hrun, hended, hW, hsame⟩ := X12.leave (v := none) (fun _ => rfl)
  refine ⟨_, _, pre0 _ ?_, hrun, hended, _, _, rfl, ?_, ⟨_, rfl⟩, hW, hsame.mono (by decide) (by decide)⟩
  · show Steps p.tables e below (s₁.setTop (mkF m 0 #[.val (.ref ob), .val (.long q1), .second] [])) _
    refine XS.aloadN X0.here hx rfl (hb hby d3_0) rfl rfl ?_
    show Steps p.tables e below (s₁.setTop (mkF m 1 #[.val (.ref ob), .val (.long q1), .second] [(.ref ob)])) _
    refine st1 _ ?_
    show Steps p.tables e below (T1.setTop (mkF m 4 #[.val (.ref ob), .val (.long q1), .second] [(.ref na)])) _
    refine XS.aloadN X1.here hx rfl (hb hby d3_4) rfl rfl ?_
    show Steps p.tables e below (T1.setTop (mkF m 5 #[.val (.ref ob), .val (.long q1), .second] [(.ref ob), (.ref na)])) _
    refine st2 _ ?_
    show Steps p.tables e below (T2.setTop (mkF m 8 #[.val (.ref ob), .val (.long q1), .second] [(.int (0 : Int32)), (.ref na)])) _
    refine XS.lloadN X2.here hx rfl (hb hby d3_8) rfl ?_
    show Steps p.tables e below (T2.setTop (mkF m 9 #[.val (.ref ob), .val (.long q1), .second] [(.long q1), (.int (0 : Int32)), (.ref na)])) _
    refine st3 _ ?_
    show Steps p.tables e below (T3.setTop (mkF m 10 #[.val (.ref ob), .val (.long q1), .second] [])) _
    refine XS.aloadN X3.here hx rfl (hb hby d3_10) rfl rfl ?_
    show Steps p.tables e below (T3.setTop (mkF m 11 #[.val (.ref ob), .val (.long q1), .second] [(.ref ob)])) _
    refine XS.aloadN X3.here hx rfl (hb hby d3_11) rfl rfl ?_
    show Steps p.tables e below (T3.setTop (mkF m 12 #[.val (.ref ob), .val (.long q1), .second] [(.ref ob), (.ref ob)])) _
    refine st5 _ ?_
    show Steps p.tables e below (T5.setTop (mkF m 15 #[.val (.ref ob), .val (.long q1), .second] [(.int (0 : Int32)), (.ref ob)])) _
    refine XS.iconst X5.here hx rfl (hb hby d3_15) ?_
    show Steps p.tables e below (T5.setTop (mkF m 16 #[.val (.ref ob), .val (.long q1), .second] [(.int (1 : Int32)), (.int (0 : Int32)), (.ref ob)])) _
    refine XS.iadd X5.here hx rfl (hb hby d3_16) rfl ?_
    show Steps p.tables e below (T5.setTop (mkF m 17 #[.val (.ref ob), .val (.long q1), .second] [(.int ((0 : Int32) + (1 : Int32))), (.ref ob)])) _
    rw [show ((0 : Int32) + (1 : Int32)) = (1 : Int32) from by decide]
    show Steps p.tables e below (T5.setTop (mkF m 17 #[.val (.ref ob), .val (.long q1), .second] [(.int (1 : Int32)), (.ref ob)])) _
    refine XS.bipush X5.here hx rfl (hb hby d3_17) ?_
    show Steps p.tables e below (T5.setTop (mkF m 19 #[.val (.ref ob), .val (.long q1), .second] [(.int (100 : Int32)), (.int (1 : Int32)), (.ref ob)])) _
    refine iremM X5 hx (g := (mkF m 19 #[.val (.ref ob), .val (.long q1), .second] [(.int (100 : Int32)), (.int (1 : Int32)), (.ref ob)])) rfl (hb hby d3_19) rfl (by decide) ?_
    show Steps p.tables e below (T5.setTop (mkF m 20 #[.val (.ref ob), .val (.long q1), .second] [(.int ((1 : Int32) % (100 : Int32))), (.ref ob)])) _
    rw [show ((1 : Int32) % (100 : Int32)) = (1 : Int32) from by decide]
    show Steps p.tables e below (T5.setTop (mkF m 20 #[.val (.ref ob), .val (.long q1), .second] [(.int (1 : Int32)), (.ref ob)])) _
    refine st7 _ ?_
    show Steps p.tables e below (T7.setTop (mkF m 23 #[.val (.ref ob), .val (.long q1), .second] [])) _
    refine XS.aloadN X7.here hx rfl (hb hby d3_23) rfl rfl ?_
    show Steps p.tables e below (T7.setTop (mkF m 24 #[.val (.ref ob), .val (.long q1), .second] [(.ref ob)])) _
    refine XS.aloadN X7.here hx rfl (hb hby d3_24) rfl rfl ?_
    show Steps p.tables e below (T7.setTop (mkF m 25 #[.val (.ref ob), .val (.long q1), .second] [(.ref ob), (.ref ob)])) _
    refine st9 _ ?_
    show Steps p.tables e below (T9.setTop (mkF m 28 #[.val (.ref ob), .val (.long q1), .second] [(.int (0 : Int32)), (.ref ob)])) _
    refine XS.iconst X9.here hx rfl (hb hby d3_28) ?_
    show Steps p.tables e below (T9.setTop (mkF m 29 #[.val (.ref ob), .val (.long q1), .second] [(.int (1 : Int32)), (.int (0 : Int32)), (.ref ob)])) _
    refine XS.iadd X9.here hx rfl (hb hby d3_29) rfl ?_
    show Steps p.tables e below (T9.setTop (mkF m 30 #[.val (.ref ob), .val (.long q1), .second] [(.int ((0 : Int32) + (1 : Int32))), (.ref ob)])) _
    rw [show ((0 : Int32) + (1 : Int32)) = (1 : Int32) from by decide]
    show Steps p.tables e below (T9.setTop (mkF m 30 #[.val (.ref ob), .val (.long q1), .second] [(.int (1 : Int32)), (.ref ob)])) _
    refine XS.bipush X9.here hx rfl (hb hby d3_30) ?_
    show Steps p.tables e below (T9.setTop (mkF m 32 #[.val (.ref ob), .val (.long q1), .second] [(.int (100 : Int32)), (.int (1 : Int32)), (.ref ob)])) _
    refine st10 _ ?_
    show Steps p.tables e below (T10.setTop (mkF m 35 #[.val (.ref ob), .val (.long q1), .second] [(.int (1 : Int32)), (.ref ob)])) _
    refine st12 _ ?_
    show Steps p.tables e below (T12.setTop (mkF m 38 #[.val (.ref ob), .val (.long q1), .second] [])) _
    exact X12.returnOut hx Bd.returns (hb hby d3_38) hr
  · show Q_rmA0 Z ob q1 na ka x0 x1 x2 x3 h0 n0 _ T12.heap _
    rw [e12]
    exact ⟨rfl, N12, ((((Keep.refl h0 [na, ob]).wr W3 (Or.inl (List.mem_of_getElem? (i := 0) rfl))).wr W7 (Or.inl (List.mem_of_getElem? (i := 1) rfl))).wr W12 (Or.inl (List.mem_of_getElem? (i := 1) rfl))), f13, f14, f15, Fw12, f16⟩
def Q_rmA1 (Z : State) (ob : Addr) (q1 : Int64) (na : Addr) (ka : ClassId) (x0 : Int64) (x1 : Int64) (x2 : Int64) (x3 : Int64) (h0 : Heap) (n0 : Nat) (v : Option Value) (h : Heap) (L : List Loc) : Prop := v = none ∧ Fr n0 L ∧ Keep h0 h [na, ob] ∧ Exa Z h ob "com/example/tolc/tolc/RecentResponseTimes" ∧ Fld Z h ob "com/example/tolc/tolc/RecentResponseTimes" "nanos" "[J" (.ref na) ∧ Fld Z h ob "com/example/tolc/tolc/RecentResponseTimes" "next" "I" (.int (2 : Int32)) ∧ Fld Z h ob "com/example/tolc/tolc/RecentResponseTimes" "size" "I" (.int (2 : Int32)) ∧ Arv Z h na ka .long (100 : Int32) [(.long x0), (.long q1), (.long x2), (.long x3)] (.long (0 : Int64))
theorem ef_rmA1 (m : MethodId) (ob : Addr) (q1 : Int64) : entryFrame m #[(.ref ob), (.long q1)] 3 = mkF m 0 #[.val (.ref ob), .val (.long q1), .second] [] := by first | (simp [entryFrame, mkF, argsToLocals, Value.category]; done) | rfl
set_option maxRecDepth 65536 in
set_option maxHeartbeats 40000000 in
theorem rmA1 (l : Launch) (Z : State) (a0 : Array Value) (hw : ∀ d ∈ tables_1, d.before a0 Z = true) (ws : List Jvm.Cond) (ob : Addr) (q1 : Int64) (na : Addr) (ka : ClassId) (x0 : Int64) (x1 : Int64) (x2 : Int64) (x3 : Int64) (h0 : Heap) (n0 : Nat) (Z0 : n0 ≤ h0.size) (E_ob : Exa Z h0 ob "com/example/tolc/tolc/RecentResponseTimes") (F_nanos_ob : Fld Z h0 ob "com/example/tolc/tolc/RecentResponseTimes" "nanos" "[J" (.ref na)) (F_next_ob : Fld Z h0 ob "com/example/tolc/tolc/RecentResponseTimes" "next" "I" (.int (1 : Int32))) (F_size_ob : Fld Z h0 ob "com/example/tolc/tolc/RecentResponseTimes" "size" "I" (.int (1 : Int32))) (V_na : Arv Z h0 na ka .long (100 : Int32) [(.long x0), (.long x1), (.long x2), (.long x3)] (.long (0 : Int64))) (g_na : n0 ≤ na) (ne_ob_na : ob ≠ na) (g_ob : n0 ≤ ob) :
    MetFree l (⟨"com/example/tolc/tolc/RecentResponseTimes", "add", "(J)V"⟩ : MethodName) (head1 (Jvm.Cond.code (⟨"com/example/tolc/tolc/RecentResponseTimes", "add", "(J)V"⟩ : MethodName) prog_15_method_2_code 3 none :: ws) ({ frames := 1, cells := 0, slots := 0, locals := 14 } : Room)) (fun a U => a = #[(.ref ob), (.long q1)] ∧ Z.Warmed39 U.vm ∧ U.heap = h0) (fun _ _ _ _ _ => True) (fun _ U o U' => ∃ v L, o = .returned v ∧ Q_rmA1 Z ob q1 na ka x0 x1 x2 x3 h0 n0 v U'.heap L ∧ FrameEnd U o U' L ({ frames := 1, cells := 0, slots := 0, locals := 14 } : Room).cells ({ frames := 1, cells := 0, slots := 0, locals := 14 } : Room).slots) := by
  refine MetFree.of_bodySF (plainFor_of_name pn_0) hisR ?_
  intro p e s m args below meth c s₁ Bd hml0 hP hK
  obtain ⟨rfl, hZ, hh⟩ := hP
  have hx := Bd.exec
  have hby := Bd.bytes
  have hml : c.maxLocals = 3 := hml0
  have hown : s.vm.findClass "com/example/tolc/tolc/RecentResponseTimes" = some m.cls := findClass_of_methodNamed Bd.named
  have hnm := (name_of_methodNamed Bd.named Bd.method).1
  have X0 : Stand p l e ({ frames := 1, cells := 0, slots := 0, locals := 14 } : Room) s m #[(.ref ob), (.long q1)] below meth c s₁ [] 0 0 := Stand.of_body Bd
  have e0 : s₁.heap = h0 := by rw [← hh, Bd.state]; rfl
  have N0 := Fr.nil n0
  have pre0 : ∀ t, Steps p.tables e below (s₁.setTop (mkF m 0 #[.val (.ref ob), .val (.long q1), .second] [])) t → Steps p.tables e below (s₁.setTop (entryFrame m #[(.ref ob), (.long q1)] 3)) t := fun t k => castTop (ef_rmA1 m ob q1) k
  obtain ⟨T1, X1, e1, st1⟩ := getF X0 hx hZ hown (host := "") (Or.inl (hw _ (List.mem_of_getElem? (i := 11) rfl))) Via.refl e0 F_nanos_ob (g := (mkF m 1 #[.val (.ref ob), .val (.long q1), .second] [(.ref ob)])) rfl rfl (hb hby d3_1)
  obtain ⟨T2, X2, e2, st2⟩ := getF X1 hx hZ hown (host := "") (Or.inl (hw _ (List.mem_of_getElem? (i := 18) rfl))) Via.refl e1 F_next_ob (g := (mkF m 5 #[.val (.ref ob), .val (.long q1), .second] [(.ref ob), (.ref na)])) rfl rfl (hb hby d3_5)
  have Vc3 := V_na
  obtain ⟨cl3, Ar3, q3, S3, M3, H3, G3⟩ := Vc3
  have hin3 : ¬ ((1 : Int32) < 0 ∨ cl3.slots.size ≤ ((1 : Int32)).toNatClampNeg) := inb_of S3 ⟨by decide, by decide⟩
  obtain ⟨T3, h3, X3, e3, W3, st3⟩ := stJ X2 hx hZ e2 Ar3 (j := (1 : Int32)) hin3 (g := (mkF m 9 #[.val (.ref ob), .val (.long q1), .second] [(.long q1), (.int (1 : Int32)), (.ref na)])) rfl rfl (hb hby d3_9)
  have V3 : Arv Z h3 na ka .long (100 : Int32) [(.long x0), (.long q1), (.long x2), (.long x3)] (.long (0 : Int64)) := Arv.set Ar3 q3 S3 M3 H3 G3 rfl W3 1 rfl (Nat.le_of_ble_eq_true rfl)
  have N3 := Fr.snoc X3 N0 g_na
  have f4 : Fld Z h3 ob "com/example/tolc/tolc/RecentResponseTimes" "next" "I" (.int (1 : Int32)) := (F_next_ob.other W3 (Or.inl ne_ob_na))
  obtain ⟨T5, X5, e5, st5⟩ := getF X3 hx hZ hown (host := "") (Or.inl (hw _ (List.mem_of_getElem? (i := 18) rfl))) Via.refl e3 f4 (g := (mkF m 12 #[.val (.ref ob), .val (.long q1), .second] [(.ref ob), (.ref ob)])) rfl rfl (hb hby d3_12)
  have f6 : Exa Z h3 ob "com/example/tolc/tolc/RecentResponseTimes" := (E_ob.wr W3)
  obtain ⟨T7, h7, X7, e7, W7, st7⟩ := putF X5 hx hZ hown (host := "") (Or.inl (hw _ (List.mem_of_getElem? (i := 18) rfl))) Via.refl e5 f4 f6 (Or.inl (hw _ (List.mem_of_getElem? (i := 19) rfl))) (hw _ (List.mem_of_getElem? (i := 2) rfl)) (ty := .int) (by decide) rfl rfl (g := (mkF m 20 #[.val (.ref ob), .val (.long q1), .second] [(.int (2 : Int32)), (.ref ob)])) rfl rfl (hb hby d3_20)
  have Fw7 := f4.same W7
  have N7 := Fr.snoc X7 N3 g_ob
  have f8 : Fld Z h7 ob "com/example/tolc/tolc/RecentResponseTimes" "size" "I" (.int (1 : Int32)) := ((F_size_ob.other W3 (Or.inl ne_ob_na)).other W7 (Or.inr (slot_ne (Or.inl (hw _ (List.mem_of_getElem? (i := 21) rfl))) (Or.inl (hw _ (List.mem_of_getElem? (i := 19) rfl))) (by decide) (t := .int) (t' := .int) (by decide) (by decide))))
  obtain ⟨T9, X9, e9, st9⟩ := getF X7 hx hZ hown (host := "") (Or.inl (hw _ (List.mem_of_getElem? (i := 20) rfl))) Via.refl e7 f8 (g := (mkF m 25 #[.val (.ref ob), .val (.long q1), .second] [(.ref ob), (.ref ob)])) rfl rfl (hb hby d3_25)
  obtain ⟨_, _, ⟨T10, L10, k10, n10⟩, -, X10, ⟨Lc10, hQ10, l10, y10, z10⟩, st10⟩ := Jvm.LawKit.callS X9 hx (y := (⟨"java/lang/Math", "min", "(II)I"⟩ : MethodName)) hown (mvT hZ (hw _ (List.mem_of_getElem? (i := 22) rfl))) (mvT hZ (hw _ (List.mem_of_getElem? (i := 23) rfl))) (mvT hZ (hw _ (List.mem_of_getElem? (i := 24) rfl))) (mvT hZ (hw _ (List.mem_of_getElem? (i := 25) rfl))) (by decide) (backOf (W := 1) (rmin_f l Z a0 hw [] (2 : Int32) (100 : Int32) h7 n0 (Nat.le_trans (Nat.le_trans Z0 (Keep.of_wr W3).1) (Keep.of_wr W7).1) (by first | assumption | decide)) hZ (hw _ (List.mem_of_getElem? (i := 25) rfl)) (hw _ (List.mem_of_getElem? (i := 24) rfl)) (by decide) (by decide)) (g := (mkF m 32 #[.val (.ref ob), .val (.long q1), .second] [(.int (100 : Int32)), (.int (2 : Int32)), (.ref ob)])) rfl (by rw [hml]; rfl) (argsL := [(.int (2 : Int32)), (.int (100 : Int32))]) (rest := [(.ref ob)]) (lenOf pd_0 rfl) rfl (by show 2 * 0 + _ ≤ _; exact Nat.le_of_eq rfl) (hb hby d3_32) (fun _ _ => ⟨rfl, e9, (by decide : 0 + 0 ≤ _), (by decide : 0 + 0 ≤ _)⟩)
  dsimp only [Pt.U, Pt.locs, Pt.cells, Pt.slots] at X10 l10 y10 z10 st10 hQ10
  subst l10 y10 z10
  obtain ⟨rfl, Nq10, e10⟩ := hQ10
  have N10 := Fr.app N7 Nq10
  have f11 : Exa Z h7 ob "com/example/tolc/tolc/RecentResponseTimes" := (f6.wr W7)
  obtain ⟨T12, h12, X12, e12, W12, st12⟩ := putF X10 hx hZ hown (host := "") (Or.inl (hw _ (List.mem_of_getElem? (i := 20) rfl))) Via.refl e10 f8 f11 (Or.inl (hw _ (List.mem_of_getElem? (i := 21) rfl))) (hw _ (List.mem_of_getElem? (i := 2) rfl)) (ty := .int) (by decide) rfl rfl (g := (mkF m 35 #[.val (.ref ob), .val (.long q1), .second] [(.int (2 : Int32)), (.ref ob)])) rfl rfl (hb hby d3_35)
  have Fw12 := f8.same W12
  have N12 := Fr.snoc X12 N10 g_ob
  have f13 : Exa Z h12 ob "com/example/tolc/tolc/RecentResponseTimes" := (f11.wr W12)
  have f14 : Fld Z h12 ob "com/example/tolc/tolc/RecentResponseTimes" "nanos" "[J" (.ref na) := (((F_nanos_ob.other W3 (Or.inl ne_ob_na)).other W7 (Or.inr (slot_ne (Or.inr (hw _ (List.mem_of_getElem? (i := 12) rfl))) (Or.inl (hw _ (List.mem_of_getElem? (i := 19) rfl))) (by decide) (t := (.array .long)) (t' := .int) (by decide) (by decide)))).other W12 (Or.inr (slot_ne (Or.inr (hw _ (List.mem_of_getElem? (i := 12) rfl))) (Or.inl (hw _ (List.mem_of_getElem? (i := 21) rfl))) (by decide) (t := (.array .long)) (t' := .int) (by decide) (by decide))))
  have f15 : Fld Z h12 ob "com/example/tolc/tolc/RecentResponseTimes" "next" "I" (.int (2 : Int32)) := (Fw7.other W12 (Or.inr (slot_ne (Or.inl (hw _ (List.mem_of_getElem? (i := 19) rfl))) (Or.inl (hw _ (List.mem_of_getElem? (i := 21) rfl))) (by decide) (t := .int) (t' := .int) (by decide) (by decide))))
  have f16 : Arv Z h12 na ka .long (100 : Int32) [(.long x0), (.long q1), (.long x2), (.long x3)] (.long (0 : Int64)) := ((V3.other W7 (Ne.symm ne_ob_na)).other W12 (Ne.symm ne_ob_na))
  obtain ⟨fs, hr, hrun, hended, hW, hsame⟩ := X12.leave (v := none) (fun _ => rfl)
  refine ⟨_, _, pre0 _ ?_, hrun, hended, _, _, rfl, ?_, ⟨_, rfl⟩, hW, hsame.mono (by decide) (by decide)⟩
  · show Steps p.tables e below (s₁.setTop (mkF m 0 #[.val (.ref ob), .val (.long q1), .second] [])) _
    refine XS.aloadN X0.here hx rfl (hb hby d3_0) rfl rfl ?_
    show Steps p.tables e below (s₁.setTop (mkF m 1 #[.val (.ref ob), .val (.long q1), .second] [(.ref ob)])) _
    refine st1 _ ?_
    show Steps p.tables e below (T1.setTop (mkF m 4 #[.val (.ref ob), .val (.long q1), .second] [(.ref na)])) _
    refine XS.aloadN X1.here hx rfl (hb hby d3_4) rfl rfl ?_
    show Steps p.tables e below (T1.setTop (mkF m 5 #[.val (.ref ob), .val (.long q1), .second] [(.ref ob), (.ref na)])) _
    refine st2 _ ?_
    show Steps p.tables e below (T2.setTop (mkF m 8 #[.val (.ref ob), .val (.long q1), .second] [(.int (1 : Int32)), (.ref na)])) _
    refine XS.lloadN X2.here hx rfl (hb hby d3_8) rfl ?_
    show Steps p.tables e below (T2.setTop (mkF m 9 #[.val (.ref ob), .val (.long q1), .second] [(.long q1), (.int (1 : Int32)), (.ref na)])) _
    refine st3 _ ?_
    show Steps p.tables e below (T3.setTop (mkF m 10 #[.val (.ref ob), .val (.long q1), .second] [])) _
    refine XS.aloadN X3.here hx rfl (hb hby d3_10) rfl rfl ?_
    show Steps p.tables e below (T3.setTop (mkF m 11 #[.val (.ref ob), .val (.long q1), .second] [(.ref ob)])) _
    refine XS.aloadN X3.here hx rfl (hb hby d3_11) rfl rfl ?_
    show Steps p.tables e below (T3.setTop (mkF m 12 #[.val (.ref ob), .val (.long q1), .second] [(.ref ob), (.ref ob)])) _
    refine st5 _ ?_
    show Steps p.tables e below (T5.setTop (mkF m 15 #[.val (.ref ob), .val (.long q1), .second] [(.int (1 : Int32)), (.ref ob)])) _
    refine XS.iconst X5.here hx rfl (hb hby d3_15) ?_
    show Steps p.tables e below (T5.setTop (mkF m 16 #[.val (.ref ob), .val (.long q1), .second] [(.int (1 : Int32)), (.int (1 : Int32)), (.ref ob)])) _
    refine XS.iadd X5.here hx rfl (hb hby d3_16) rfl ?_
    show Steps p.tables e below (T5.setTop (mkF m 17 #[.val (.ref ob), .val (.long q1), .second] [(.int ((1 : Int32) + (1 : Int32))), (.ref ob)])) _
    rw [show ((1 : Int32) + (1 : Int32)) = (2 : Int32) from by decide]
    show Steps p.tables e below (T5.setTop (mkF m 17 #[.val (.ref ob), .val (.long q1), .second] [(.int (2 : Int32)), (.ref ob)])) _
    refine XS.bipush X5.here hx rfl (hb hby d3_17) ?_
    show Steps p.tables e below (T5.setTop (mkF m 19 #[.val (.ref ob), .val (.long q1), .second] [(.int (100 : Int32)), (.int (2 : Int32)), (.ref ob)])) _
    refine iremM X5 hx (g := (mkF m 19 #[.val (.ref ob), .val (.long q1), .second] [(.int (100 : Int32)), (.int (2 : Int32)), (.ref ob)])) rfl (hb hby d3_19) rfl (by decide) ?_
    show Steps p.tables e below (T5.setTop (mkF m 20 #[.val (.ref ob), .val (.long q1), .second] [(.int ((2 : Int32) % (100 : Int32))), (.ref ob)])) _
    rw [show ((2 : Int32) % (100 : Int32)) = (2 : Int32) from by decide]
    show Steps p.tables e below (T5.setTop (mkF m 20 #[.val (.ref ob), .val (.long q1), .second] [(.int (2 : Int32)), (.ref ob)])) _
    refine st7 _ ?_
    show Steps p.tables e below (T7.setTop (mkF m 23 #[.val (.ref ob), .val (.long q1), .second] [])) _
    refine XS.aloadN X7.here hx rfl (hb hby d3_23) rfl rfl ?_
    show Steps p.tables e below (T7.setTop (mkF m 24 #[.val (.ref ob), .val (.long q1), .second] [(.ref ob)])) _
    refine XS.aloadN X7.here hx rfl (hb hby d3_24) rfl rfl ?_
    show Steps p.tables e below (T7.setTop (mkF m 25 #[.val (.ref ob), .val (.long q1), .second] [(.ref ob), (.ref ob)])) _
    refine st9 _ ?_
    show Steps p.tables e below (T9.setTop (mkF m 28 #[.val (.ref ob), .val (.long q1), .second] [(.int (1 : Int32)), (.ref ob)])) _
    refine XS.iconst X9.here hx rfl (hb hby d3_28) ?_
    show Steps p.tables e below (T9.setTop (mkF m 29 #[.val (.ref ob), .val (.long q1), .second] [(.int (1 : Int32)), (.int (1 : Int32)), (.ref ob)])) _
    refine XS.iadd X9.here hx rfl (hb hby d3_29) rfl ?_
    show Steps p.tables e below (T9.setTop (mkF m 30 #[.val (.ref ob), .val (.long q1), .second] [(.int ((1 : Int32) + (1 : Int32))), (.ref ob)])) _
    rw [show ((1 : Int32) + (1 : Int32)) = (2 : Int32) from by decide]
    show Steps p.tables e below (T9.setTop (mkF m 30 #[.val (.ref ob), .val (.long q1), .second] [(.int (2 : Int32)), (.ref ob)])) _
    refine XS.bipush X9.here hx rfl (hb hby d3_30) ?_
    show Steps p.tables e below (T9.setTop (mkF m 32 #[.val (.ref ob), .val (.long q1), .second] [(.int (100 : Int32)), (.int (2 : Int32)), (.ref ob)])) _
    refine st10 _ ?_
    show Steps p.tables e below (T10.setTop (mkF m 35 #[.val (.ref ob), .val (.long q1), .second] [(.int (2 : Int32)), (.ref ob)])) _
    refine st12 _ ?_
    show Steps p.tables e below (T12.setTop (mkF m 38 #[.val (.ref ob), .val (.long q1), .second] [])) _
    exact X12.returnOut hx Bd.returns (hb hby d3_38) hr
  · show Q_rmA1 Z ob q1 na ka x0 x1 x2 x3 h0 n0 _ T12.heap _
    rw [e12]
    exact ⟨rfl, N12, ((((Keep.refl h0 [na, ob]).wr W3 (Or.inl (List.mem_of_getElem? (i := 0) rfl))).wr W7 (Or.inl (List.mem_of_getElem? (i := 1) rfl))).wr W12 (Or.inl (List.mem_of_getElem? (i := 1) rfl))), f13, f14, f15, Fw12, f16⟩
def Q_rmA2 (Z : State) (ob : Addr) (q1 : Int64) (na : Addr) (ka : ClassId) (x0 : Int64) (x1 : Int64) (x2 : Int64) (x3 : Int64) (h0 : Heap) (n0 : Nat) (v : Option Value) (h : Heap) (L : List Loc) : Prop := v = none ∧ Fr n0 L ∧ Keep h0 h [na, ob] ∧ Exa Z h ob "com/example/tolc/tolc/RecentResponseTimes" ∧ Fld Z h ob "com/example/tolc/tolc/RecentResponseTimes" "nanos" "[J" (.ref na) ∧ Fld Z h ob "com/example/tolc/tolc/RecentResponseTimes" "next" "I" (.int (3 : Int32)) ∧ Fld Z h ob "com/example/tolc/tolc/RecentResponseTimes" "size" "I" (.int (3 : Int32)) ∧ Arv Z h na ka .long (100 : Int32) [(.long x0), (.long x1), (.long q1), (.long x3)] (.long (0 : Int64))
theorem ef_rmA2 (m : MethodId) (ob : Addr) (q1 : Int64) : entryFrame m #[(.ref ob), (.long q1)] 3 = mkF m 0 #[.val (.ref ob), .val (.long q1), .second] [] := by first | (simp [entryFrame, mkF, argsToLocals, Value.category]; done) | rfl
set_option maxRecDepth 65536 in
set_option maxHeartbeats 40000000 in
theorem rmA2 (l : Launch) (Z : State) (a0 : Array Value) (hw : ∀ d ∈ tables_1, d.before a0 Z = true) (ws : List Jvm.Cond) (ob : Addr) (q1 : Int64) (na : Addr) (ka : ClassId) (x0 : Int64) (x1 : Int64) (x2 : Int64) (x3 : Int64) (h0 : Heap) (n0 : Nat) (Z0 : n0 ≤ h0.size) (E_ob : Exa Z h0 ob "com/example/tolc/tolc/RecentResponseTimes") (F_nanos_ob : Fld Z h0 ob "com/example/tolc/tolc/RecentResponseTimes" "nanos" "[J" (.ref na)) (F_next_ob : Fld Z h0 ob "com/example/tolc/tolc/RecentResponseTimes" "next" "I" (.int (2 : Int32))) (F_size_ob : Fld Z h0 ob "com/example/tolc/tolc/RecentResponseTimes" "size" "I" (.int (2 : Int32))) (V_na : Arv Z h0 na ka .long (100 : Int32) [(.long x0), (.long x1), (.long x2), (.long x3)] (.long (0 : Int64))) (g_na : n0 ≤ na) (ne_ob_na : ob ≠ na) (g_ob : n0 ≤ ob) :
    MetFree l (⟨"com/example/tolc/tolc/RecentResponseTimes", "add", "(J)V"⟩ : MethodName) (head1 (Jvm.Cond.code (⟨"com/example/tolc/tolc/RecentResponseTimes", "add", "(J)V"⟩ : MethodName) prog_15_method_2_code 3 none :: ws) ({ frames := 1, cells := 0, slots := 0, locals := 14 } : Room)) (fun a U => a = #[(.ref ob), (.long q1)] ∧ Z.Warmed39 U.vm ∧ U.heap = h0) (fun _ _ _ _ _ => True) (fun _ U o U' => ∃ v L, o = .returned v ∧ Q_rmA2 Z ob q1 na ka x0 x1 x2 x3 h0 n0 v U'.heap L ∧ FrameEnd U o U' L ({ frames := 1, cells := 0, slots := 0, locals := 14 } : Room).cells ({ frames := 1, cells := 0, slots := 0, locals := 14 } : Room).slots) := by
  refine MetFree.of_bodySF (plainFor_of_name pn_0) hisR ?_
  intro p e s m args below meth c s₁ Bd hml0 hP hK
  obtain ⟨rfl, hZ, hh⟩ := hP
  have hx := Bd.exec
  have hby := Bd.bytes
  have hml : c.maxLocals = 3 := hml0
  have hown : s.vm.findClass "com/example/tolc/tolc/RecentResponseTimes" = some m.cls := findClass_of_methodNamed Bd.named
  have hnm := (name_of_methodNamed Bd.named Bd.method).1
  have X0 : Stand p l e ({ frames := 1, cells := 0, slots := 0, locals := 14 } : Room) s m #[(.ref ob), (.long q1)] below meth c s₁ [] 0 0 := Stand.of_body Bd
  have e0 : s₁.heap = h0 := by rw [← hh, Bd.state]; rfl
  have N0 := Fr.nil n0
  have pre0 : ∀ t, Steps p.tables e below (s₁.setTop (mkF m 0 #[.val (.ref ob), .val (.long q1), .second] [])) t → Steps p.tables e below (s₁.setTop (entryFrame m #[(.ref ob), (.long q1)] 3)) t := fun t k => castTop (ef_rmA2 m ob q1) k
  obtain ⟨T1, X1, e1, st1⟩ := getF X0 hx hZ hown (host := "") (Or.inl (hw _ (List.mem_of_getElem? (i := 11) rfl))) Via.refl e0 F_nanos_ob (g := (mkF m 1 #[.val (.ref ob), .val (.long q1), .second] [(.ref ob)])) rfl rfl (hb hby d3_1)
  obtain ⟨T2, X2, e2, st2⟩ := getF X1 hx hZ hown (host := "") (Or.inl (hw _ (List.mem_of_getElem? (i := 18) rfl))) Via.refl e1 F_next_ob (g := (mkF m 5 #[.val (.ref ob), .val (.long q1), .second] [(.ref ob), (.ref na)])) rfl rfl (hb hby d3_5)
  have Vc3 := V_na
  obtain ⟨cl3, Ar3, q3, S3, M3, H3, G3⟩ := Vc3
  have hin3 : ¬ ((2 : Int32) < 0 ∨ cl3.slots.size ≤ ((2 : Int32)).toNatClampNeg) := inb_of S3 ⟨by decide, by decide⟩
  obtain ⟨T3, h3, X3, e3, W3, st3⟩ := stJ X2 hx hZ e2 Ar3 (j := (2 : Int32)) hin3 (g := (mkF m 9 #[.val (.ref ob), .val (.long q1), .second] [(.long q1), (.int (2 : Int32)), (.ref na)])) rfl rfl (hb hby d3_9)
  have V3 : Arv Z h3 na ka .long (100 : Int32) [(.long x0), (.long x1), (.long q1), (.long x3)] (.long (0 : Int64)) := Arv.set Ar3 q3 S3 M3 H3 G3 rfl W3 2 rfl (Nat.le_of_ble_eq_true rfl)
  have N3 := Fr.snoc X3 N0 g_na
  have f4 : Fld Z h3 ob "com/example/tolc/tolc/RecentResponseTimes" "next" "I" (.int (2 : Int32)) := (F_next_ob.other W3 (Or.inl ne_ob_na))
  obtain ⟨T5, X5, e5, st5⟩ := getF X3 hx hZ hown (host := "") (Or.inl (hw _ (List.mem_of_getElem? (i := 18) rfl))) Via.refl e3 f4 (g := (mkF m 12 #[.val (.ref ob), .val (.long q1), .second] [(.ref ob), (.ref ob)])) rfl rfl (hb hby d3_12)
  have f6 : Exa Z h3 ob "com/example/tolc/tolc/RecentResponseTimes" := (E_ob.wr W3)
  obtain ⟨T7, h7, X7, e7, W7, st7⟩ := putF X5 hx hZ hown (host := "") (Or.inl (hw _ (List.mem_of_getElem? (i := 18) rfl))) Via.refl e5 f4 f6 (Or.inl (hw _ (List.mem_of_getElem? (i := 19) rfl))) (hw _ (List.mem_of_getElem? (i := 2) rfl)) (ty := .int) (by decide) rfl rfl (g := (mkF m 20 #[.val (.ref ob), .val (.long q1), .second] [(.int (3 : Int32)), (.ref ob)])) rfl rfl (hb hby d3_20)
  have Fw7 := f4.same W7
  have N7 := Fr.snoc X7 N3 g_ob
  have f8 : Fld Z h7 ob "com/example/tolc/tolc/RecentResponseTimes" "size" "I" (.int (2 : Int32)) := ((F_size_ob.other W3 (Or.inl ne_ob_na)).other W7 (Or.inr (slot_ne (Or.inl (hw _ (List.mem_of_getElem? (i := 21) rfl))) (Or.inl (hw _ (List.mem_of_getElem? (i := 19) rfl))) (by decide) (t := .int) (t' := .int) (by decide) (by decide))))
  obtain ⟨T9, X9, e9, st9⟩ := getF X7 hx hZ hown (host := "") (Or.inl (hw _ (List.mem_of_getElem? (i := 20) rfl))) Via.refl e7 f8 (g := (mkF m 25 #[.val (.ref ob), .val (.long q1), .second] [(.ref ob), (.ref ob)])) rfl rfl (hb hby d3_25)
  obtain ⟨_, _, ⟨T10, L10, k10, n10⟩, -, X10, ⟨Lc10, hQ10, l10, y10, z10⟩, st10⟩ := Jvm.LawKit.callS X9 hx (y := (⟨"java/lang/Math", "min", "(II)I"⟩ : MethodName)) hown (mvT hZ (hw _ (List.mem_of_getElem? (i := 22) rfl))) (mvT hZ (hw _ (List.mem_of_getElem? (i := 23) rfl))) (mvT hZ (hw _ (List.mem_of_getElem? (i := 24) rfl))) (mvT hZ (hw _ (List.mem_of_getElem? (i := 25) rfl))) (by decide) (backOf (W := 1) (rmin_f l Z a0 hw [] (3 : Int32) (100 : Int32) h7 n0 (Nat.le_trans (Nat.le_trans Z0 (Keep.of_wr W3).1) (Keep.of_wr W7).1) (by first | assumption | decide)) hZ (hw _ (List.mem_of_getElem? (i := 25) rfl)) (hw _ (List.mem_of_getElem? (i := 24) rfl)) (by decide) (by decide)) (g := (mkF m 32 #[.val (.ref ob), .val (.long q1), .second] [(.int (100 : Int32)), (.int (3 : Int32)), (.ref ob)])) rfl (by rw [hml]; rfl) (argsL := [(.int (3 : Int32)), (.int (100 : Int32))]) (rest := [(.ref ob)]) (lenOf pd_0 rfl) rfl (by show 2 * 0 + _ ≤ _; exact Nat.le_of_eq rfl) (hb hby d3_32) (fun _ _ => ⟨rfl, e9, (by decide : 0 + 0 ≤ _), (by decide : 0 + 0 ≤ _)⟩)
  dsimp only [Pt.U, Pt.locs, Pt.cells, Pt.slots] at X10 l10 y10 z10 st10 hQ10
  subst l10 y10 z10
  obtain ⟨rfl, Nq10, e10⟩ := hQ10
  have N10 := Fr.app N7 Nq10
  have f11 : Exa Z h7 ob "com/example/tolc/tolc/RecentResponseTimes" := (f6.wr W7)
  obtain ⟨T12, h12, X12, e12, W12, st12⟩ := putF X10 hx hZ hown (host := "") (Or.inl (hw _ (List.mem_of_getElem? (i := 20) rfl))) Via.refl e10 f8 f11 (Or.inl (hw _ (List.mem_of_getElem? (i := 21) rfl))) (hw _ (List.mem_of_getElem? (i := 2) rfl)) (ty := .int) (by decide) rfl rfl (g := (mkF m 35 #[.val (.ref ob), .val (.long q1), .second] [(.int (3 : Int32)), (.ref ob)])) rfl rfl (hb hby d3_35)
  have Fw12 := f8.same W12
  have N12 := Fr.snoc X12 N10 g_ob
  have f13 : Exa Z h12 ob "com/example/tolc/tolc/RecentResponseTimes" := (f11.wr W12)
  have f14 : Fld Z h12 ob "com/example/tolc/tolc/RecentResponseTimes" "nanos" "[J" (.ref na) := (((F_nanos_ob.other W3 (Or.inl ne_ob_na)).other W7 (Or.inr (slot_ne (Or.inr (hw _ (List.mem_of_getElem? (i := 12) rfl))) (Or.inl (hw _ (List.mem_of_getElem? (i := 19) rfl))) (by decide) (t := (.array .long)) (t' := .int) (by decide) (by decide)))).other W12 (Or.inr (slot_ne (Or.inr (hw _ (List.mem_of_getElem? (i := 12) rfl))) (Or.inl (hw _ (List.mem_of_getElem? (i := 21) rfl))) (by decide) (t := (.array .long)) (t' := .int) (by decide) (by decide))))
  have f15 : Fld Z h12 ob "com/example/tolc/tolc/RecentResponseTimes" "next" "I" (.int (3 : Int32)) := (Fw7.other W12 (Or.inr (slot_ne (Or.inl (hw _ (List.mem_of_getElem? (i := 19) rfl))) (Or.inl (hw _ (List.mem_of_getElem? (i := 21) rfl))) (by decide) (t := .int) (t' := .int) (by decide) (by decide))))
  have f16 : Arv Z h12 na ka .long (100 : Int32) [(.long x0), (.long x1), (.long q1), (.long x3)] (.long (0 : Int64)) := ((V3.other W7 (Ne.symm ne_ob_na)).other W12 (Ne.symm ne_ob_na))
  obtain ⟨fs, hr, hrun, hended, hW, hsame⟩ := X12.leave (v := none) (fun _ => rfl)
  refine ⟨_, _, pre0 _ ?_, hrun, hended, _, _, rfl, ?_, ⟨_, rfl⟩, hW, hsame.mono (by decide) (by decide)⟩
  · show Steps p.tables e below (s₁.setTop (mkF m 0 #[.val (.ref ob), .val (.long q1), .second] [])) _
    refine XS.aloadN X0.here hx rfl (hb hby d3_0) rfl rfl ?_
    show Steps p.tables e below (s₁.setTop (mkF m 1 #[.val (.ref ob), .val (.long q1), .second] [(.ref ob)])) _
    refine st1 _ ?_
    show Steps p.tables e below (T1.setTop (mkF m 4 #[.val (.ref ob), .val (.long q1), .second] [(.ref na)])) _
    refine XS.aloadN X1.here hx rfl (hb hby d3_4) rfl rfl ?_
    show Steps p.tables e below (T1.setTop (mkF m 5 #[.val (.ref ob), .val (.long q1), .second] [(.ref ob), (.ref na)])) _
    refine st2 _ ?_
    show Steps p.tables e below (T2.setTop (mkF m 8 #[.val (.ref ob), .val (.long q1), .second] [(.int (2 : Int32)), (.ref na)])) _
    refine XS.lloadN X2.here hx rfl (hb hby d3_8) rfl ?_
    show Steps p.tables e below (T2.setTop (mkF m 9 #[.val (.ref ob), .val (.long q1), .second] [(.long q1), (.int (2 : Int32)), (.ref na)])) _
    refine st3 _ ?_
    show Steps p.tables e below (T3.setTop (mkF m 10 #[.val (.ref ob), .val (.long q1), .second] [])) _
    refine XS.aloadN X3.here hx rfl (hb hby d3_10) rfl rfl ?_
    show Steps p.tables e below (T3.setTop (mkF m 11 #[.val (.ref ob), .val (.long q1), .second] [(.ref ob)])) _
    refine XS.aloadN X3.here hx rfl (hb hby d3_11) rfl rfl ?_
    show Steps p.tables e below (T3.setTop (mkF m 12 #[.val (.ref ob), .val (.long q1), .second] [(.ref ob), (.ref ob)])) _
    refine st5 _ ?_
    show Steps p.tables e below (T5.setTop (mkF m 15 #[.val (.ref ob), .val (.long q1), .second] [(.int (2 : Int32)), (.ref ob)])) _
    refine XS.iconst X5.here hx rfl (hb hby d3_15) ?_
    show Steps p.tables e below (T5.setTop (mkF m 16 #[.val (.ref ob), .val (.long q1), .second] [(.int (1 : Int32)), (.int (2 : Int32)), (.ref ob)])) _
    refine XS.iadd X5.here hx rfl (hb hby d3_16) rfl ?_
    show Steps p.tables e below (T5.setTop (mkF m 17 #[.val (.ref ob), .val (.long q1), .second] [(.int ((2 : Int32) + (1 : Int32))), (.ref ob)])) _
    rw [show ((2 : Int32) + (1 : Int32)) = (3 : Int32) from by decide]
    show Steps p.tables e below (T5.setTop (mkF m 17 #[.val (.ref ob), .val (.long q1), .second] [(.int (3 : Int32)), (.ref ob)])) _
    refine XS.bipush X5.here hx rfl (hb hby d3_17) ?_
    show Steps p.tables e below (T5.setTop (mkF m 19 #[.val (.ref ob), .val (.long q1), .second] [(.int (100 : Int32)), (.int (3 : Int32)), (.ref ob)])) _
    refine iremM X5 hx (g := (mkF m 19 #[.val (.ref ob), .val (.long q1), .second] [(.int (100 : Int32)), (.int (3 : Int32)), (.ref ob)])) rfl (hb hby d3_19) rfl (by decide) ?_
    show Steps p.tables e below (T5.setTop (mkF m 20 #[.val (.ref ob), .val (.long q1), .second] [(.int ((3 : Int32) % (100 : Int32))), (.ref ob)])) _
    rw [show ((3 : Int32) % (100 : Int32)) = (3 : Int32) from by decide]
    show Steps p.tables e below (T5.setTop (mkF m 20 #[.val (.ref ob), .val (.long q1), .second] [(.int (3 : Int32)), (.ref ob)])) _
    refine st7 _ ?_
    show Steps p.tables e below (T7.setTop (mkF m 23 #[.val (.ref ob), .val (.long q1), .second] [])) _
    refine XS.aloadN X7.here hx rfl (hb hby d3_23) rfl rfl ?_
    show Steps p.tables e below (T7.setTop (mkF m 24 #[.val (.ref ob), .val (.long q1), .second] [(.ref ob)])) _
    refine XS.aloadN X7.here hx rfl (hb hby d3_24) rfl rfl ?_
    show Steps p.tables e below (T7.setTop (mkF m 25 #[.val (.ref ob), .val (.long q1), .second] [(.ref ob), (.ref ob)])) _
    refine st9 _ ?_
    show Steps p.tables e below (T9.setTop (mkF m 28 #[.val (.ref ob), .val (.long q1), .second] [(.int (2 : Int32)), (.ref ob)])) _
    refine XS.iconst X9.here hx rfl (hb hby d3_28) ?_
    show Steps p.tables e below (T9.setTop (mkF m 29 #[.val (.ref ob), .val (.long q1), .second] [(.int (1 : Int32)), (.int (2 : Int32)), (.ref ob)])) _
    refine XS.iadd X9.here hx rfl (hb hby d3_29) rfl ?_
    show Steps p.tables e below (T9.setTop (mkF m 30 #[.val (.ref ob), .val (.long q1), .second] [(.int ((2 : Int32) + (1 : Int32))), (.ref ob)])) _
    rw [show ((2 : Int32) + (1 : Int32)) = (3 : Int32) from by decide]
    show Steps p.tables e below (T9.setTop (mkF m 30 #[.val (.ref ob), .val (.long q1), .second] [(.int (3 : Int32)), (.ref ob)])) _
    refine XS.bipush X9.here hx rfl (hb hby d3_30) ?_
    show Steps p.tables e below (T9.setTop (mkF m 32 #[.val (.ref ob), .val (.long q1), .second] [(.int (100 : Int32)), (.int (3 : Int32)), (.ref ob)])) _
    refine st10 _ ?_
    show Steps p.tables e below (T10.setTop (mkF m 35 #[.val (.ref ob), .val (.long q1), .second] [(.int (3 : Int32)), (.ref ob)])) _
    refine st12 _ ?_
    show Steps p.tables e below (T12.setTop (mkF m 38 #[.val (.ref ob), .val (.long q1), .second] [])) _
    exact X12.returnOut hx Bd.returns (hb hby d3_38) hr
  · show Q_rmA2 Z ob q1 na ka x0 x1 x2 x3 h0 n0 _ T12.heap _
    rw [e12]
    exact ⟨rfl, N12, ((((Keep.refl h0 [na, ob]).wr W3 (Or.inl (List.mem_of_getElem? (i := 0) rfl))).wr W7 (Or.inl (List.mem_of_getElem? (i := 1) rfl))).wr W12 (Or.inl (List.mem_of_getElem? (i := 1) rfl))), f13, f14, f15, Fw12, f16⟩
def Q_rmA3 (Z : State) (ob : Addr) (q1 : Int64) (na : Addr) (ka : ClassId) (x0 : Int64) (x1 : Int64) (x2 : Int64) (x3 : Int64) (h0 : Heap) (n0 : Nat) (v : Option Value) (h : Heap) (L : List Loc) : Prop := v = none ∧ Fr n0 L ∧ Keep h0 h [na, ob] ∧ Exa Z h ob "com/example/tolc/tolc/RecentResponseTimes" ∧ Fld Z h ob "com/example/tolc/tolc/RecentResponseTimes" "nanos" "[J" (.ref na) ∧ Fld Z h ob "com/example/tolc/tolc/RecentResponseTimes" "next" "I" (.int (4 : Int32)) ∧ Fld Z h ob "com/example/tolc/tolc/RecentResponseTimes" "size" "I" (.int (4 : Int32)) ∧ Arv Z h na ka .long (100 : Int32) [(.long x0), (.long x1), (.long x2), (.long q1)] (.long (0 : Int64))
theorem ef_rmA3 (m : MethodId) (ob : Addr) (q1 : Int64) : entryFrame m #[(.ref ob), (.long q1)] 3 = mkF m 0 #[.val (.ref ob), .val (.long q1), .second] [] := by first | (simp [entryFrame, mkF, argsToLocals, Value.category]; done) | rfl
set_option maxRecDepth 65536 in
set_option maxHeartbeats 40000000 in
theorem rmA3 (l : Launch) (Z : State) (a0 : Array Value) (hw : ∀ d ∈ tables_1, d.before a0 Z = true) (ws : List Jvm.Cond) (ob : Addr) (q1 : Int64) (na : Addr) (ka : ClassId) (x0 : Int64) (x1 : Int64) (x2 : Int64) (x3 : Int64) (h0 : Heap) (n0 : Nat) (Z0 : n0 ≤ h0.size) (E_ob : Exa Z h0 ob "com/example/tolc/tolc/RecentResponseTimes") (F_nanos_ob : Fld Z h0 ob "com/example/tolc/tolc/RecentResponseTimes" "nanos" "[J" (.ref na)) (F_next_ob : Fld Z h0 ob "com/example/tolc/tolc/RecentResponseTimes" "next" "I" (.int (3 : Int32))) (F_size_ob : Fld Z h0 ob "com/example/tolc/tolc/RecentResponseTimes" "size" "I" (.int (3 : Int32))) (V_na : Arv Z h0 na ka .long (100 : Int32) [(.long x0), (.long x1), (.long x2), (.long x3)] (.long (0 : Int64))) (g_na : n0 ≤ na) (ne_ob_na : ob ≠ na) (g_ob : n0 ≤ ob) :
    MetFree l (⟨"com/example/tolc/tolc/RecentResponseTimes", "add", "(J)V"⟩ : MethodName) (head1 (Jvm.Cond.code (⟨"com/example/tolc/tolc/RecentResponseTimes", "add", "(J)V"⟩ : MethodName) prog_15_method_2_code 3 none :: ws) ({ frames := 1, cells := 0, slots := 0, locals := 14 } : Room)) (fun a U => a = #[(.ref ob), (.long q1)] ∧ Z.Warmed39 U.vm ∧ U.heap = h0) (fun _ _ _ _ _ => True) (fun _ U o U' => ∃ v L, o = .returned v ∧ Q_rmA3 Z ob q1 na ka x0 x1 x2 x3 h0 n0 v U'.heap L ∧ FrameEnd U o U' L ({ frames := 1, cells := 0, slots := 0, locals := 14 } : Room).cells ({ frames := 1, cells := 0, slots := 0, locals := 14 } : Room).slots) := by
  refine MetFree.of_bodySF (plainFor_of_name pn_0) hisR ?_
  intro p e s m args below meth c s₁ Bd hml0 hP hK
  obtain ⟨rfl, hZ, hh⟩ := hP
  have hx := Bd.exec
  have hby := Bd.bytes
  have hml : c.maxLocals = 3 := hml0
  have hown : s.vm.findClass "com/example/tolc/tolc/RecentResponseTimes" = some m.cls := findClass_of_methodNamed Bd.named
  have hnm := (name_of_methodNamed Bd.named Bd.method).1
  have X0 : Stand p l e ({ frames := 1, cells := 0, slots := 0, locals := 14 } : Room) s m #[(.ref ob), (.long q1)] below meth c s₁ [] 0 0 := Stand.of_body Bd
  have e0 : s₁.heap = h0 := by rw [← hh, Bd.state]; rfl
  have N0 := Fr.nil n0
  have pre0 : ∀ t, Steps p.tables e below (s₁.setTop (mkF m 0 #[.val (.ref ob), .val (.long q1), .second] [])) t → Steps p.tables e below (s₁.setTop (entryFrame m #[(.ref ob), (.long q1)] 3)) t := fun t k => castTop (ef_rmA3 m ob q1) k
  obtain ⟨T1, X1, e1, st1⟩ := getF X0 hx hZ hown (host := "") (Or.inl (hw _ (List.mem_of_getElem? (i := 11) rfl))) Via.refl e0 F_nanos_ob (g := (mkF m 1 #[.val (.ref ob), .val (.long q1), .second] [(.ref ob)])) rfl rfl (hb hby d3_1)
  obtain ⟨T2, X2, e2, st2⟩ := getF X1 hx hZ hown (host := "") (Or.inl (hw _ (List.mem_of_getElem? (i := 18) rfl))) Via.refl e1 F_next_ob (g := (mkF m 5 #[.val (.ref ob), .val (.long q1), .second] [(.ref ob), (.ref na)])) rfl rfl (hb hby d3_5)
  have Vc3 := V_na
  obtain ⟨cl3, Ar3, q3, S3, M3, H3, G3⟩ := Vc3
  have hin3 : ¬ ((3 : Int32) < 0 ∨ cl3.slots.size ≤ ((3 : Int32)).toNatClampNeg) := inb_of S3 ⟨by decide, by decide⟩
  obtain ⟨T3, h3, X3, e3, W3, st3⟩ := stJ X2 hx hZ e2 Ar3 (j := (3 : Int32)) hin3 (g := (mkF m 9 #[.val (.ref ob), .val (.long q1), .second] [(.long q1), (.int (3 : Int32)), (.ref na)])) rfl rfl (hb hby d3_9)
  have V3 : Arv Z h3 na ka .long (100 : Int32) [(.long x0), (.long x1), (.long x2), (.long q1)] (.long (0 : Int64)) := Arv.set Ar3 q3 S3 M3 H3 G3 rfl W3 3 rfl (Nat.le_of_ble_eq_true rfl)
  have N3 := Fr.snoc X3 N0 g_na
  have f4 : Fld Z h3 ob "com/example/tolc/tolc/RecentResponseTimes" "next" "I" (.int (3 : Int32)) := (F_next_ob.other W3 (Or.inl ne_ob_na))
  obtain ⟨T5, X5, e5, st5⟩ := getF X3 hx hZ hown (host := "") (Or.inl (hw _ (List.mem_of_getElem? (i := 18) rfl))) Via.refl e3 f4 (g := (mkF m 12 #[.val (.ref ob), .val (.long q1), .second] [(.ref ob), (.ref ob)])) rfl rfl (hb hby d3_12)
  have f6 : Exa Z h3 ob "com/example/tolc/tolc/RecentResponseTimes" := (E_ob.wr W3)
  obtain ⟨T7, h7, X7, e7, W7, st7⟩ := putF X5 hx hZ hown (host := "") (Or.inl (hw _ (List.mem_of_getElem? (i := 18) rfl))) Via.refl e5 f4 f6 (Or.inl (hw _ (List.mem_of_getElem? (i := 19) rfl))) (hw _ (List.mem_of_getElem? (i := 2) rfl)) (ty := .int) (by decide) rfl rfl (g := (mkF m 20 #[.val (.ref ob), .val (.long q1), .second] [(.int (4 : Int32)), (.ref ob)])) rfl rfl (hb hby d3_20)
  have Fw7 := f4.same W7
  have N7 := Fr.snoc X7 N3 g_ob
  have f8 : Fld Z h7 ob "com/example/tolc/tolc/RecentResponseTimes" "size" "I" (.int (3 : Int32)) := ((F_size_ob.other W3 (Or.inl ne_ob_na)).other W7 (Or.inr (slot_ne (Or.inl (hw _ (List.mem_of_getElem? (i := 21) rfl))) (Or.inl (hw _ (List.mem_of_getElem? (i := 19) rfl))) (by decide) (t := .int) (t' := .int) (by decide) (by decide))))
  obtain ⟨T9, X9, e9, st9⟩ := getF X7 hx hZ hown (host := "") (Or.inl (hw _ (List.mem_of_getElem? (i := 20) rfl))) Via.refl e7 f8 (g := (mkF m 25 #[.val (.ref ob), .val (.long q1), .second] [(.ref ob), (.ref ob)])) rfl rfl (hb hby d3_25)
  obtain ⟨_, _, ⟨T10, L10, k10, n10⟩, -, X10, ⟨Lc10, hQ10, l10, y10, z10⟩, st10⟩ := Jvm.LawKit.callS X9 hx (y := (⟨"java/lang/Math", "min", "(II)I"⟩ : MethodName)) hown (mvT hZ (hw _ (List.mem_of_getElem? (i := 22) rfl))) (mvT hZ (hw _ (List.mem_of_getElem? (i := 23) rfl))) (mvT hZ (hw _ (List.mem_of_getElem? (i := 24) rfl))) (mvT hZ (hw _ (List.mem_of_getElem? (i := 25) rfl))) (by decide) (backOf (W := 1) (rmin_f l Z a0 hw [] (4 : Int32) (100 : Int32) h7 n0 (Nat.le_trans (Nat.le_trans Z0 (Keep.of_wr W3).1) (Keep.of_wr W7).1) (by first | assumption | decide)) hZ (hw _ (List.mem_of_getElem? (i := 25) rfl)) (hw _ (List.mem_of_getElem? (i := 24) rfl)) (by decide) (by decide)) (g := (mkF m 32 #[.val (.ref ob), .val (.long q1), .second] [(.int (100 : Int32)), (.int (4 : Int32)), (.ref ob)])) rfl (by rw [hml]; rfl) (argsL := [(.int (4 : Int32)), (.int (100 : Int32))]) (rest := [(.ref ob)]) (lenOf pd_0 rfl) rfl (by show 2 * 0 + _ ≤ _; exact Nat.le_of_eq rfl) (hb hby d3_32) (fun _ _ => ⟨rfl, e9, (by decide : 0 + 0 ≤ _), (by decide : 0 + 0 ≤ _)⟩)
  dsimp only [Pt.U, Pt.locs, Pt.cells, Pt.slots] at X10 l10 y10 z10 st10 hQ10
  subst l10 y10 z10
  obtain ⟨rfl, Nq10, e10⟩ := hQ10
  have N10 := Fr.app N7 Nq10
  have f11 : Exa Z h7 ob "com/example/tolc/tolc/RecentResponseTimes" := (f6.wr W7)
  obtain ⟨T12, h12, X12, e12, W12, st12⟩ := putF X10 hx hZ hown (host := "") (Or.inl (hw _ (List.mem_of_getElem? (i := 20) rfl))) Via.refl e10 f8 f11 (Or.inl (hw _ (List.mem_of_getElem? (i := 21) rfl))) (hw _ (List.mem_of_getElem? (i := 2) rfl)) (ty := .int) (by decide) rfl rfl (g := (mkF m 35 #[.val (.ref ob), .val (.long q1), .second] [(.int (4 : Int32)), (.ref ob)])) rfl rfl (hb hby d3_35)
  have Fw12 := f8.same W12
  have N12 := Fr.snoc X12 N10 g_ob
  have f13 : Exa Z h12 ob "com/example/tolc/tolc/RecentResponseTimes" := (f11.wr W12)
  have f14 : Fld Z h12 ob "com/example/tolc/tolc/RecentResponseTimes" "nanos" "[J" (.ref na) := (((F_nanos_ob.other W3 (Or.inl ne_ob_na)).other W7 (Or.inr (slot_ne (Or.inr (hw _ (List.mem_of_getElem? (i := 12) rfl))) (Or.inl (hw _ (List.mem_of_getElem? (i := 19) rfl))) (by decide) (t := (.array .long)) (t' := .int) (by decide) (by decide)))).other W12 (Or.inr (slot_ne (Or.inr (hw _ (List.mem_of_getElem? (i := 12) rfl))) (Or.inl (hw _ (List.mem_of_getElem? (i := 21) rfl))) (by decide) (t := (.array .long)) (t' := .int) (by decide) (by decide))))
  have f15 : Fld Z h12 ob "com/example/tolc/tolc/RecentResponseTimes" "next" "I" (.int (4 : Int32)) := (Fw7.other W12 (Or.inr (slot_ne (Or.inl (hw _ (List.mem_of_getElem? (i := 19) rfl))) (Or.inl (hw _ (List.mem_of_getElem? (i := 21) rfl))) (by decide) (t := .int) (t' := .int) (by decide) (by decide))))
  have f16 : Arv Z h12 na ka .long (100 : Int32) [(.long x0), (.long x1), (.long x2), (.long q1)] (.long (0 : Int64)) := ((V3.other W7 (Ne.symm ne_ob_na)).other W12 (Ne.symm ne_ob_na))
  obtain ⟨fs, hr, hrun, hended, hW, hsame⟩ := X12.leave (v := none) (fun _ => rfl)
  refine ⟨_, _, pre0 _ ?_, hrun, hended, _, _, rfl, ?_, ⟨_, rfl⟩, hW, hsame.mono (by decide) (by decide)⟩
  · show Steps p.tables e below (s₁.setTop (mkF m 0 #[.val (.ref ob), .val (.long q1), .second] [])) _
    refine XS.aloadN X0.here hx rfl (hb hby d3_0) rfl rfl ?_
    show Steps p.tables e below (s₁.setTop (mkF m 1 #[.val (.ref ob), .val (.long q1), .second] [(.ref ob)])) _
    refine st1 _ ?_
    show Steps p.tables e below (T1.setTop (mkF m 4 #[.val (.ref ob), .val (.long q1), .second] [(.ref na)])) _
    refine XS.aloadN X1.here hx rfl (hb hby d3_4) rfl rfl ?_
    show Steps p.tables e below (T1.setTop (mkF m 5 #[.val (.ref ob), .val (.long q1), .second] [(.ref ob), (.ref na)])) _
    refine st2 _ ?_
    show Steps p.tables e below (T2.setTop (mkF m 8 #[.val (.ref ob), .val (.long q1), .second] [(.int (3 : Int32)), (.ref na)])) _
    refine XS.lloadN X2.here hx rfl (hb hby d3_8) rfl ?_
    show Steps p.tables e below (T2.setTop (mkF m 9 #[.val (.ref ob), .val (.long q1), .second] [(.long q1), (.int (3 : Int32)), (.ref na)])) _
    refine st3 _ ?_
    show Steps p.tables e below (T3.setTop (mkF m 10 #[.val (.ref ob), .val (.long q1), .second] [])) _
    refine XS.aloadN X3.here hx rfl (hb hby d3_10) rfl rfl ?_
    show Steps p.tables e below (T3.setTop (mkF m 11 #[.val (.ref ob), .val (.long q1), .second] [(.ref ob)])) _
    refine XS.aloadN X3.here hx rfl (hb hby d3_11) rfl rfl ?_
    show Steps p.tables e below (T3.setTop (mkF m 12 #[.val (.ref ob), .val (.long q1), .second] [(.ref ob), (.ref ob)])) _
    refine st5 _ ?_
    show Steps p.tables e below (T5.setTop (mkF m 15 #[.val (.ref ob), .val (.long q1), .second] [(.int (3 : Int32)), (.ref ob)])) _
    refine XS.iconst X5.here hx rfl (hb hby d3_15) ?_
    show Steps p.tables e below (T5.setTop (mkF m 16 #[.val (.ref ob), .val (.long q1), .second] [(.int (1 : Int32)), (.int (3 : Int32)), (.ref ob)])) _
    refine XS.iadd X5.here hx rfl (hb hby d3_16) rfl ?_
    show Steps p.tables e below (T5.setTop (mkF m 17 #[.val (.ref ob), .val (.long q1), .second] [(.int ((3 : Int32) + (1 : Int32))), (.ref ob)])) _
    rw [show ((3 : Int32) + (1 : Int32)) = (4 : Int32) from by decide]
    show Steps p.tables e below (T5.setTop (mkF m 17 #[.val (.ref ob), .val (.long q1), .second] [(.int (4 : Int32)), (.ref ob)])) _
    refine XS.bipush X5.here hx rfl (hb hby d3_17) ?_
    show Steps p.tables e below (T5.setTop (mkF m 19 #[.val (.ref ob), .val (.long q1), .second] [(.int (100 : Int32)), (.int (4 : Int32)), (.ref ob)])) _
    refine iremM X5 hx (g := (mkF m 19 #[.val (.ref ob), .val (.long q1), .second] [(.int (100 : Int32)), (.int (4 : Int32)), (.ref ob)])) rfl (hb hby d3_19) rfl (by decide) ?_
    show Steps p.tables e below (T5.setTop (mkF m 20 #[.val (.ref ob), .val (.long q1), .second] [(.int ((4 : Int32) % (100 : Int32))), (.ref ob)])) _
    rw [show ((4 : Int32) % (100 : Int32)) = (4 : Int32) from by decide]
    show Steps p.tables e below (T5.setTop (mkF m 20 #[.val (.ref ob), .val (.long q1), .second] [(.int (4 : Int32)), (.ref ob)])) _
    refine st7 _ ?_
    show Steps p.tables e below (T7.setTop (mkF m 23 #[.val (.ref ob), .val (.long q1), .second] [])) _
    refine XS.aloadN X7.here hx rfl (hb hby d3_23) rfl rfl ?_
    show Steps p.tables e below (T7.setTop (mkF m 24 #[.val (.ref ob), .val (.long q1), .second] [(.ref ob)])) _
    refine XS.aloadN X7.here hx rfl (hb hby d3_24) rfl rfl ?_
    show Steps p.tables e below (T7.setTop (mkF m 25 #[.val (.ref ob), .val (.long q1), .second] [(.ref ob), (.ref ob)])) _
    refine st9 _ ?_
    show Steps p.tables e below (T9.setTop (mkF m 28 #[.val (.ref ob), .val (.long q1), .second] [(.int (3 : Int32)), (.ref ob)])) _
    refine XS.iconst X9.here hx rfl (hb hby d3_28) ?_
    show Steps p.tables e below (T9.setTop (mkF m 29 #[.val (.ref ob), .val (.long q1), .second] [(.int (1 : Int32)), (.int (3 : Int32)), (.ref ob)])) _
    refine XS.iadd X9.here hx rfl (hb hby d3_29) rfl ?_
    show Steps p.tables e below (T9.setTop (mkF m 30 #[.val (.ref ob), .val (.long q1), .second] [(.int ((3 : Int32) + (1 : Int32))), (.ref ob)])) _
    rw [show ((3 : Int32) + (1 : Int32)) = (4 : Int32) from by decide]
    show Steps p.tables e below (T9.setTop (mkF m 30 #[.val (.ref ob), .val (.long q1), .second] [(.int (4 : Int32)), (.ref ob)])) _
    refine XS.bipush X9.here hx rfl (hb hby d3_30) ?_
    show Steps p.tables e below (T9.setTop (mkF m 32 #[.val (.ref ob), .val (.long q1), .second] [(.int (100 : Int32)), (.int (4 : Int32)), (.ref ob)])) _
    refine st10 _ ?_
    show Steps p.tables e below (T10.setTop (mkF m 35 #[.val (.ref ob), .val (.long q1), .second] [(.int (4 : Int32)), (.ref ob)])) _
    refine st12 _ ?_
    show Steps p.tables e below (T12.setTop (mkF m 38 #[.val (.ref ob), .val (.long q1), .second] [])) _
    exact X12.returnOut hx Bd.returns (hb hby d3_38) hr
  · show Q_rmA3 Z ob q1 na ka x0 x1 x2 x3 h0 n0 _ T12.heap _
    rw [e12]
    exact ⟨rfl, N12, ((((Keep.refl h0 [na, ob]).wr W3 (Or.inl (List.mem_of_getElem? (i := 0) rfl))).wr W7 (Or.inl (List.mem_of_getElem? (i := 1) rfl))).wr W12 (Or.inl (List.mem_of_getElem? (i := 1) rfl))), f13, f14, f15, Fw12, f16⟩
theorem d4_3 : decode jdk_2529_method_15_code 3 = .ok (.iinc 4 1, 3) := by decide +kernel
theorem d4_6 : decode jdk_2529_method_15_code 6 = .ok (.iload 4, 2) := by decide +kernel
theorem d4_8 : decode jdk_2529_method_15_code 8 = .ok (.iload_n 2, 1) := by decide +kernel
theorem d4_9 : decode jdk_2529_method_15_code 9 = .ok (.if_icmp .ge 60, 3) := by decide +kernel
theorem d4_12 : decode jdk_2529_method_15_code 12 = .ok (.aload_n 0, 1) := by decide +kernel
theorem d4_13 : decode jdk_2529_method_15_code 13 = .ok (.iload 4, 2) := by decide +kernel
theorem d4_15 : decode jdk_2529_method_15_code 15 = .ok (.dup, 1) := by decide +kernel
theorem d4_16 : decode jdk_2529_method_15_code 16 = .ok (.istore_n 3, 1) := by decide +kernel
theorem d4_17 : decode jdk_2529_method_15_code 17 = .ok (.laload, 1) := by decide +kernel
theorem d4_18 : decode jdk_2529_method_15_code 18 = .ok (.lstore 5, 2) := by decide +kernel
theorem d4_20 : decode jdk_2529_method_15_code 20 = .ok (.lload 5, 2) := by decide +kernel
theorem d4_22 : decode jdk_2529_method_15_code 22 = .ok (.aload_n 0, 1) := by decide +kernel
theorem d4_23 : decode jdk_2529_method_15_code 23 = .ok (.iload_n 3, 1) := by decide +kernel
theorem d4_24 : decode jdk_2529_method_15_code 24 = .ok (.iconst 1, 1) := by decide +kernel
theorem d4_25 : decode jdk_2529_method_15_code 25 = .ok (.isub, 1) := by decide +kernel
theorem d4_26 : decode jdk_2529_method_15_code 26 = .ok (.laload, 1) := by decide +kernel
theorem d4_27 : decode jdk_2529_method_15_code 27 = .ok (.lcmp, 1) := by decide +kernel
theorem d4_28 : decode jdk_2529_method_15_code 28 = .ok (.ifCond .ge 38, 3) := by decide +kernel
theorem d4_66 : decode jdk_2529_method_15_code 66 = .ok (.goto (-63), 3) := by decide +kernel
set_option maxRecDepth 65536 in
set_option maxHeartbeats 40000000 in
theorem tn2_1_0 {p : Program} {l : Launch} {e : Env} {R : Room} {s : State} {m : MethodId} {args : Array Value} {below : List Frame} {meth : Method} {c : Code} {T0 : State} {locs : List Loc} {cells slots : Nat} {Z : State} {a0 : Array Value} {h0 : Heap} {n0 : Nat} (ka : ClassId) (x0 : Int64) (x1 : Int64) (ar : Addr)
    (X0 : Stand p l e R s m args below meth c T0 locs cells slots) (hx : p.tables.exec = Jvm.exec) (hZ : Z.Warmed39 s.vm) (hw : ∀ d ∈ tables_1, d.before a0 Z = true) (hby : c.code = jdk_2529_method_15_code) (hml : c.maxLocals = 7) (hown : s.vm.findClass "java/util/DualPivotQuicksort" = some m.cls) (e0 : T0.heap = h0) (N0 : Fr n0 locs) (Z0 : n0 ≤ h0.size) (V_ar : Arv Z h0 ar ka .long (2 : Int32) [(.long x0), (.long x1)] (.long (0 : Int64))) (hc28 : ¬ ((lcmpW x1 x0) < (0 : Int32))) :
    ∃ (T' : State) (h' : Heap) (locs' : List Loc), Stand p l e R s m args below meth c T' locs' cells slots ∧ T'.heap = h' ∧ Fr n0 locs' ∧ h' = h0 ∧ Arv Z h' ar ka .long (2 : Int32) [(.long x0), (.long x1)] (.long (0 : Int64)) ∧ ∀ target, Steps p.tables e below (T'.setTop (mkF m 3 #[.val (.ref ar), .val (.int (0 : Int32)), .val (.int (2 : Int32)), .val (.int (1 : Int32)), .val (.int (1 : Int32)), .val (.long x1), .second] [])) target → Steps p.tables e below (T0.setTop (mkF m 3 #[.val (.ref ar), .val (.int (0 : Int32)), .val (.int (2 : Int32)), .unset, .val (.int (0 : Int32)), .unset, .unset] [])) target := by
  have Vc1 := V_ar
  obtain ⟨cl1, Ar1, q1, S1, M1, H1, G1⟩ := Vc1
  have hin1 : ¬ ((1 : Int32) < 0 ∨ cl1.slots.size ≤ ((1 : Int32)).toNatClampNeg) := inb_of S1 ⟨by decide, by decide⟩
  have hat1 : cl1.slots[((1 : Int32)).toNatClampNeg]? = some (.long x1) := Has.at H1 hin1 rfl
  have Vc2 := V_ar
  obtain ⟨cl2, Ar2, q2, S2, M2, H2, G2⟩ := Vc2
  have hin2 : ¬ ((0 : Int32) < 0 ∨ cl2.slots.size ≤ ((0 : Int32)).toNatClampNeg) := inb_of S2 ⟨by decide, by decide⟩
  have hat2 : cl2.slots[((0 : Int32)).toNatClampNeg]? = some (.long x0) := Has.at H2 hin2 rfl
  refine ⟨T0, h0, _, X0, e0, N0, rfl, V_ar, fun target kt => ?_⟩
  show Steps p.tables e below (T0.setTop (mkF m 3 #[.val (.ref ar), .val (.int (0 : Int32)), .val (.int (2 : Int32)), .unset, .val (.int (0 : Int32)), .unset, .unset] [])) _
  refine XS.iinc X0.here hx rfl (hb hby d4_3) rfl (l' := #[.val (.ref ar), .val (.int (0 : Int32)), .val (.int (2 : Int32)), .unset, .val (.int ((0 : Int32) + (1 : Int32))), .unset, .unset]) rfl ?_
  show Steps p.tables e below (T0.setTop (mkF m 6 #[.val (.ref ar), .val (.int (0 : Int32)), .val (.int (2 : Int32)), .unset, .val (.int ((0 : Int32) + (1 : Int32))), .unset, .unset] [])) _
  rw [show ((0 : Int32) + (1 : Int32)) = (1 : Int32) from by decide]
  show Steps p.tables e below (T0.setTop (mkF m 6 #[.val (.ref ar), .val (.int (0 : Int32)), .val (.int (2 : Int32)), .unset, .val (.int (1 : Int32)), .unset, .unset] [])) _
  refine XS.iload X0.here hx rfl (hb hby d4_6) rfl ?_
  show Steps p.tables e below (T0.setTop (mkF m 8 #[.val (.ref ar), .val (.int (0 : Int32)), .val (.int (2 : Int32)), .unset, .val (.int (1 : Int32)), .unset, .unset] [(.int (1 : Int32))])) _
  refine XS.iloadN X0.here hx rfl (hb hby d4_8) rfl ?_
  show Steps p.tables e below (T0.setTop (mkF m 9 #[.val (.ref ar), .val (.int (0 : Int32)), .val (.int (2 : Int32)), .unset, .val (.int (1 : Int32)), .unset, .unset] [(.int (2 : Int32)), (.int (1 : Int32))])) _
  refine XS.icmpNo X0.here hx rfl (hb hby d4_9) rfl (tlt (by decide : (1 : Int32) < (2 : Int32))).2.1 ?_
  show Steps p.tables e below (T0.setTop (mkF m 12 #[.val (.ref ar), .val (.int (0 : Int32)), .val (.int (2 : Int32)), .unset, .val (.int (1 : Int32)), .unset, .unset] [])) _
  refine XS.aloadN X0.here hx rfl (hb hby d4_12) rfl rfl ?_
  show Steps p.tables e below (T0.setTop (mkF m 13 #[.val (.ref ar), .val (.int (0 : Int32)), .val (.int (2 : Int32)), .unset, .val (.int (1 : Int32)), .unset, .unset] [(.ref ar)])) _
  refine XS.iload X0.here hx rfl (hb hby d4_13) rfl ?_
  show Steps p.tables e below (T0.setTop (mkF m 15 #[.val (.ref ar), .val (.int (0 : Int32)), .val (.int (2 : Int32)), .unset, .val (.int (1 : Int32)), .unset, .unset] [(.int (1 : Int32)), (.ref ar)])) _
  refine XS.dup X0.here hx rfl (hb hby d4_15) rfl rfl ?_
  show Steps p.tables e below (T0.setTop (mkF m 16 #[.val (.ref ar), .val (.int (0 : Int32)), .val (.int (2 : Int32)), .unset, .val (.int (1 : Int32)), .unset, .unset] [(.int (1 : Int32)), (.int (1 : Int32)), (.ref ar)])) _
  refine XS.istoreN X0.here hx rfl (hb hby d4_16) rfl (l' := #[.val (.ref ar), .val (.int (0 : Int32)), .val (.int (2 : Int32)), .val (.int (1 : Int32)), .val (.int (1 : Int32)), .unset, .unset]) rfl ?_
  show Steps p.tables e below (T0.setTop (mkF m 17 #[.val (.ref ar), .val (.int (0 : Int32)), .val (.int (2 : Int32)), .val (.int (1 : Int32)), .val (.int (1 : Int32)), .unset, .unset] [(.int (1 : Int32)), (.ref ar)])) _
  refine X0.laload hx (j := (1 : Int32)) (v := (.long x1)) (by rw [e0]; exact Ar1.1) (State.isArrayOf_alike hZ.alike Ar1.2.1) Ar1.2.2 hin1 hat1 (g := (mkF m 17 #[.val (.ref ar), .val (.int (0 : Int32)), .val (.int (2 : Int32)), .val (.int (1 : Int32)), .val (.int (1 : Int32)), .unset, .unset] [(.int (1 : Int32)), (.ref ar)])) rfl rfl (hb hby d4_17) _ ?_
  show Steps p.tables e below (T0.setTop (mkF m 18 #[.val (.ref ar), .val (.int (0 : Int32)), .val (.int (2 : Int32)), .val (.int (1 : Int32)), .val (.int (1 : Int32)), .unset, .unset] [(.long x1)])) _
  refine XS.lstore X0.here hx rfl (hb hby d4_18) rfl (l' := #[.val (.ref ar), .val (.int (0 : Int32)), .val (.int (2 : Int32)), .val (.int (1 : Int32)), .val (.int (1 : Int32)), .val (.long x1), .second]) rfl ?_
  show Steps p.tables e below (T0.setTop (mkF m 20 #[.val (.ref ar), .val (.int (0 : Int32)), .val (.int (2 : Int32)), .val (.int (1 : Int32)), .val (.int (1 : Int32)), .val (.long x1), .second] [])) _
  refine XS.lload X0.here hx rfl (hb hby d4_20) rfl ?_
  show Steps p.tables e below (T0.setTop (mkF m 22 #[.val (.ref ar), .val (.int (0 : Int32)), .val (.int (2 : Int32)), .val (.int (1 : Int32)), .val (.int (1 : Int32)), .val (.long x1), .second] [(.long x1)])) _
  refine XS.aloadN X0.here hx rfl (hb hby d4_22) rfl rfl ?_
  show Steps p.tables e below (T0.setTop (mkF m 23 #[.val (.ref ar), .val (.int (0 : Int32)), .val (.int (2 : Int32)), .val (.int (1 : Int32)), .val (.int (1 : Int32)), .val (.long x1), .second] [(.ref ar), (.long x1)])) _
  refine XS.iloadN X0.here hx rfl (hb hby d4_23) rfl ?_
  show Steps p.tables e below (T0.setTop (mkF m 24 #[.val (.ref ar), .val (.int (0 : Int32)), .val (.int (2 : Int32)), .val (.int (1 : Int32)), .val (.int (1 : Int32)), .val (.long x1), .second] [(.int (1 : Int32)), (.ref ar), (.long x1)])) _
  refine XS.iconst X0.here hx rfl (hb hby d4_24) ?_
  show Steps p.tables e below (T0.setTop (mkF m 25 #[.val (.ref ar), .val (.int (0 : Int32)), .val (.int (2 : Int32)), .val (.int (1 : Int32)), .val (.int (1 : Int32)), .val (.long x1), .second] [(.int (1 : Int32)), (.int (1 : Int32)), (.ref ar), (.long x1)])) _
  refine XS.isub X0.here hx rfl (hb hby d4_25) rfl ?_
  show Steps p.tables e below (T0.setTop (mkF m 26 #[.val (.ref ar), .val (.int (0 : Int32)), .val (.int (2 : Int32)), .val (.int (1 : Int32)), .val (.int (1 : Int32)), .val (.long x1), .second] [(.int ((1 : Int32) - (1 : Int32))), (.ref ar), (.long x1)])) _
  rw [show ((1 : Int32) - (1 : Int32)) = (0 : Int32) from by decide]
  show Steps p.tables e below (T0.setTop (mkF m 26 #[.val (.ref ar), .val (.int (0 : Int32)), .val (.int (2 : Int32)), .val (.int (1 : Int32)), .val (.int (1 : Int32)), .val (.long x1), .second] [(.int (0 : Int32)), (.ref ar), (.long x1)])) _
  refine X0.laload hx (j := (0 : Int32)) (v := (.long x0)) (by rw [e0]; exact Ar2.1) (State.isArrayOf_alike hZ.alike Ar2.2.1) Ar2.2.2 hin2 hat2 (g := (mkF m 26 #[.val (.ref ar), .val (.int (0 : Int32)), .val (.int (2 : Int32)), .val (.int (1 : Int32)), .val (.int (1 : Int32)), .val (.long x1), .second] [(.int (0 : Int32)), (.ref ar), (.long x1)])) rfl rfl (hb hby d4_26) _ ?_
  show Steps p.tables e below (T0.setTop (mkF m 27 #[.val (.ref ar), .val (.int (0 : Int32)), .val (.int (2 : Int32)), .val (.int (1 : Int32)), .val (.int (1 : Int32)), .val (.long x1), .second] [(.long x0), (.long x1)])) _
  refine XS.lcmp X0.here hx rfl (hb hby d4_27) rfl ?_
  show Steps p.tables e below (T0.setTop (mkF m 28 #[.val (.ref ar), .val (.int (0 : Int32)), .val (.int (2 : Int32)), .val (.int (1 : Int32)), .val (.int (1 : Int32)), .val (.long x1), .second] [(.int (lcmpW x1 x0))])) _
  refine XS.ifYes X0.here hx rfl (pc0 := 28) (pc' := 66) rfl (hb hby d4_28) rfl ((if0 _ _).trans (flt hc28).2.1) (by decide) (by decide) ?_
  show Steps p.tables e below (T0.setTop (mkF m 66 #[.val (.ref ar), .val (.int (0 : Int32)), .val (.int (2 : Int32)), .val (.int (1 : Int32)), .val (.int (1 : Int32)), .val (.long x1), .second] [])) _
  refine XS.goto X0.here hx rfl (pc0 := 66) (pc' := 3) rfl (hb hby d4_66) (by decide) (by decide) ?_
  exact kt
theorem d4_31 : decode jdk_2529_method_15_code 31 = .ok (.iinc 3 (-1), 3) := by decide +kernel
theorem d4_34 : decode jdk_2529_method_15_code 34 = .ok (.iload_n 3, 1) := by decide +kernel
theorem d4_35 : decode jdk_2529_method_15_code 35 = .ok (.iload_n 1, 1) := by decide +kernel
theorem d4_36 : decode jdk_2529_method_15_code 36 = .ok (.if_icmp .lt 23, 3) := by decide +kernel
theorem d4_39 : decode jdk_2529_method_15_code 39 = .ok (.lload 5, 2) := by decide +kernel
theorem d4_41 : decode jdk_2529_method_15_code 41 = .ok (.aload_n 0, 1) := by decide +kernel
theorem d4_42 : decode jdk_2529_method_15_code 42 = .ok (.iload_n 3, 1) := by decide +kernel
theorem d4_43 : decode jdk_2529_method_15_code 43 = .ok (.laload, 1) := by decide +kernel
theorem d4_44 : decode jdk_2529_method_15_code 44 = .ok (.lcmp, 1) := by decide +kernel
theorem d4_45 : decode jdk_2529_method_15_code 45 = .ok (.ifCond .ge 14, 3) := by decide +kernel
theorem d4_48 : decode jdk_2529_method_15_code 48 = .ok (.aload_n 0, 1) := by decide +kernel
theorem d4_49 : decode jdk_2529_method_15_code 49 = .ok (.iload_n 3, 1) := by decide +kernel
theorem d4_50 : decode jdk_2529_method_15_code 50 = .ok (.iconst 1, 1) := by decide +kernel
theorem d4_51 : decode jdk_2529_method_15_code 51 = .ok (.iadd, 1) := by decide +kernel
theorem d4_52 : decode jdk_2529_method_15_code 52 = .ok (.aload_n 0, 1) := by decide +kernel
theorem d4_53 : decode jdk_2529_method_15_code 53 = .ok (.iload_n 3, 1) := by decide +kernel
theorem d4_54 : decode jdk_2529_method_15_code 54 = .ok (.laload, 1) := by decide +kernel
theorem d4_55 : decode jdk_2529_method_15_code 55 = .ok (.lastore, 1) := by decide +kernel
theorem d4_56 : decode jdk_2529_method_15_code 56 = .ok (.goto (-25), 3) := by decide +kernel
theorem d4_59 : decode jdk_2529_method_15_code 59 = .ok (.aload_n 0, 1) := by decide +kernel
theorem d4_60 : decode jdk_2529_method_15_code 60 = .ok (.iload_n 3, 1) := by decide +kernel
theorem d4_61 : decode jdk_2529_method_15_code 61 = .ok (.iconst 1, 1) := by decide +kernel
theorem d4_62 : decode jdk_2529_method_15_code 62 = .ok (.iadd, 1) := by decide +kernel
theorem d4_63 : decode jdk_2529_method_15_code 63 = .ok (.lload 5, 2) := by decide +kernel
theorem d4_65 : decode jdk_2529_method_15_code 65 = .ok (.lastore, 1) := by decide +kernel
set_option maxRecDepth 65536 in
set_option maxHeartbeats 40000000 in
theorem tn2_1_1 {p : Program} {l : Launch} {e : Env} {R : Room} {s : State} {m : MethodId} {args : Array Value} {below : List Frame} {meth : Method} {c : Code} {T0 : State} {locs : List Loc} {cells slots : Nat} {Z : State} {a0 : Array Value} {h0 : Heap} {n0 : Nat} (ka : ClassId) (x0 : Int64) (x1 : Int64) (ar : Addr)
    (X0 : Stand p l e R s m args below meth c T0 locs cells slots) (hx : p.tables.exec = Jvm.exec) (hZ : Z.Warmed39 s.vm) (hw : ∀ d ∈ tables_1, d.before a0 Z = true) (hby : c.code = jdk_2529_method_15_code) (hml : c.maxLocals = 7) (hown : s.vm.findClass "java/util/DualPivotQuicksort" = some m.cls) (e0 : T0.heap = h0) (N0 : Fr n0 locs) (Z0 : n0 ≤ h0.size) (V_ar : Arv Z h0 ar ka .long (2 : Int32) [(.long x0), (.long x1)] (.long (0 : Int64))) (hc28 : (lcmpW x1 x0) < (0 : Int32)) (g_ar : n0 ≤ ar) :
    ∃ (T' : State) (h' : Heap) (locs' : List Loc), Stand p l e R s m args below meth c T' locs' cells slots ∧ T'.heap = h' ∧ Fr n0 locs' ∧ Keep h0 h' [ar] ∧ Arv Z h' ar ka .long (2 : Int32) [(.long x1), (.long x0)] (.long (0 : Int64)) ∧ ∀ target, Steps p.tables e below (T'.setTop (mkF m 3 #[.val (.ref ar), .val (.int (0 : Int32)), .val (.int (2 : Int32)), .val (.int (-1 : Int32)), .val (.int (1 : Int32)), .val (.long x1), .second] [])) target → Steps p.tables e below (T0.setTop (mkF m 3 #[.val (.ref ar), .val (.int (0 : Int32)), .val (.int (2 : Int32)), .unset, .val (.int (0 : Int32)), .unset, .unset] [])) target := by
  have Vc1 := V_ar
  obtain ⟨cl1, Ar1, q1, S1, M1, H1, G1⟩ := Vc1
  have hin1 : ¬ ((1 : Int32) < 0 ∨ cl1.slots.size ≤ ((1 : Int32)).toNatClampNeg) := inb_of S1 ⟨by decide, by decide⟩
  have hat1 : cl1.slots[((1 : Int32)).toNatClampNeg]? = some (.long x1) := Has.at H1 hin1 rfl
  have Vc2 := V_ar
  obtain ⟨cl2, Ar2, q2, S2, M2, H2, G2⟩ := Vc2
  have hin2 : ¬ ((0 : Int32) < 0 ∨ cl2.slots.size ≤ ((0 : Int32)).toNatClampNeg) := inb_of S2 ⟨by decide, by decide⟩
  have hat2 : cl2.slots[((0 : Int32)).toNatClampNeg]? = some (.long x0) := Has.at H2 hin2 rfl
  have Vc3 := V_ar
  obtain ⟨cl3, Ar3, q3, S3, M3, H3, G3⟩ := Vc3
  have hin3 : ¬ ((0 : Int32) < 0 ∨ cl3.slots.size ≤ ((0 : Int32)).toNatClampNeg) := inb_of S3 ⟨by decide, by decide⟩
  have hat3 : cl3.slots[((0 : Int32)).toNatClampNeg]? = some (.long x0) := Has.at H3 hin3 rfl
  have Vc4 := V_ar
  obtain ⟨cl4, Ar4, q4, S4, M4, H4, G4⟩ := Vc4
  have hin4 : ¬ ((0 : Int32) < 0 ∨ cl4.slots.size ≤ ((0 : Int32)).toNatClampNeg) := inb_of S4 ⟨by decide, by decide⟩
  have hat4 : cl4.slots[((0 : Int32)).toNatClampNeg]? = some (.long x0) := Has.at H4 hin4 rfl
  have Vc5 := V_ar
  obtain ⟨cl5, Ar5, q5, S5, M5, H5, G5⟩ := Vc5
  have hin5 : ¬ ((1 : Int32) < 0 ∨ cl5.slots.size ≤ ((1 : Int32)).toNatClampNeg) := inb_of S5 ⟨by decide, by decide⟩
  obtain ⟨T5, h5, X5, e5, W5, st5⟩ := stJ X0 hx hZ e0 Ar5 (j := (1 : Int32)) hin5 (g := (mkF m 55 #[.val (.ref ar), .val (.int (0 : Int32)), .val (.int (2 : Int32)), .val (.int (0 : Int32)), .val (.int (1 : Int32)), .val (.long x1), .second] [(.long x0), (.int (1 : Int32)), (.ref ar)])) rfl rfl (hb hby d4_55)
  have V5 : Arv Z h5 ar ka .long (2 : Int32) [(.long x0), (.long x0)] (.long (0 : Int64)) := Arv.set Ar5 q5 S5 M5 H5 G5 rfl W5 1 rfl (Nat.le_of_ble_eq_true rfl)
  have N5 := Fr.snoc X5 N0 g_ar
  have Vc6 := V5
  obtain ⟨cl6, Ar6, q6, S6, M6, H6, G6⟩ := Vc6
  have hin6 : ¬ ((0 : Int32) < 0 ∨ cl6.slots.size ≤ ((0 : Int32)).toNatClampNeg) := inb_of S6 ⟨by decide, by decide⟩
  obtain ⟨T6, h6, X6, e6, W6, st6⟩ := stJ X5 hx hZ e5 Ar6 (j := (0 : Int32)) hin6 (g := (mkF m 65 #[.val (.ref ar), .val (.int (0 : Int32)), .val (.int (2 : Int32)), .val (.int (-1 : Int32)), .val (.int (1 : Int32)), .val (.long x1), .second] [(.long x1), (.int (0 : Int32)), (.ref ar)])) rfl rfl (hb hby d4_65)
  have V6 : Arv Z h6 ar ka .long (2 : Int32) [(.long x1), (.long x0)] (.long (0 : Int64)) := Arv.set Ar6 q6 S6 M6 H6 G6 rfl W6 0 rfl (Nat.le_of_ble_eq_true rfl)
  have N6 := Fr.snoc X6 N5 g_ar
  refine ⟨T6, h6, _, X6, e6, N6, (((Keep.refl h0 [ar]).wr W5 (Or.inl (List.mem_of_getElem? (i := 0) rfl))).wr W6 (Or.inl (List.mem_of_getElem? (i := 0) rfl))), V6, fun target kt => ?_⟩
  show Steps p.tables e below (T0.setTop (mkF m 3 #[.val (.ref ar), .val (.int (0 : Int32)), .val (.int (2 : Int32)), .unset, .val (.int (0 : Int32)), .unset, .unset] [])) _
  refine XS.iinc X0.here hx rfl (hb hby d4_3) rfl (l' := #[.val (.ref ar), .val (.int (0 : Int32)), .val (.int (2 : Int32)), .unset, .val (.int ((0 : Int32) + (1 : Int32))), .unset, .unset]) rfl ?_
  show Steps p.tables e below (T0.setTop (mkF m 6 #[.val (.ref ar), .val (.int (0 : Int32)), .val (.int (2 : Int32)), .unset, .val (.int ((0 : Int32) + (1 : Int32))), .unset, .unset] [])) _
  rw [show ((0 : Int32) + (1 : Int32)) = (1 : Int32) from by decide]
  show Steps p.tables e below (T0.setTop (mkF m 6 #[.val (.ref ar), .val (.int (0 : Int32)), .val (.int (2 : Int32)), .unset, .val (.int (1 : Int32)), .unset, .unset] [])) _
  refine XS.iload X0.here hx rfl (hb hby d4_6) rfl ?_
  show Steps p.tables e below (T0.setTop (mkF m 8 #[.val (.ref ar), .val (.int (0 : Int32)), .val (.int (2 : Int32)), .unset, .val (.int (1 : Int32)), .unset, .unset] [(.int (1 : Int32))])) _
  refine XS.iloadN X0.here hx rfl (hb hby d4_8) rfl ?_
  show Steps p.tables e below (T0.setTop (mkF m 9 #[.val (.ref ar), .val (.int (0 : Int32)), .val (.int (2 : Int32)), .unset, .val (.int (1 : Int32)), .unset, .unset] [(.int (2 : Int32)), (.int (1 : Int32))])) _
  refine XS.icmpNo X0.here hx rfl (hb hby d4_9) rfl (tlt (by decide : (1 : Int32) < (2 : Int32))).2.1 ?_
  show Steps p.tables e below (T0.setTop (mkF m 12 #[.val (.ref ar), .val (.int (0 : Int32)), .val (.int (2 : Int32)), .unset, .val (.int (1 : Int32)), .unset, .unset] [])) _
  refine XS.aloadN X0.here hx rfl (hb hby d4_12) rfl rfl ?_
  show Steps p.tables e below (T0.setTop (mkF m 13 #[.val (.ref ar), .val (.int (0 : Int32)), .val (.int (2 : Int32)), .unset, .val (.int (1 : Int32)), .unset, .unset] [(.ref ar)])) _
  refine XS.iload X0.here hx rfl (hb hby d4_13) rfl ?_
  show Steps p.tables e below (T0.setTop (mkF m 15 #[.val (.ref ar), .val (.int (0 : Int32)), .val (.int (2 : Int32)), .unset, .val (.int (1 : Int32)), .unset, .unset] [(.int (1 : Int32)), (.ref ar)])) _
  refine XS.dup X0.here hx rfl (hb hby d4_15) rfl rfl ?_
  show Steps p.tables e below (T0.setTop (mkF m 16 #[.val (.ref ar), .val (.int (0 : Int32)), .val (.int (2 : Int32)), .unset, .val (.int (1 : Int32)), .unset, .unset] [(.int (1 : Int32)), (.int (1 : Int32)), (.ref ar)])) _
  refine XS.istoreN X0.here hx rfl (hb hby d4_16) rfl (l' := #[.val (.ref ar), .val (.int (0 : Int32)), .val (.int (2 : Int32)), .val (.int (1 : Int32)), .val (.int (1 : Int32)), .unset, .unset]) rfl ?_
  show Steps p.tables e below (T0.setTop (mkF m 17 #[.val (.ref ar), .val (.int (0 : Int32)), .val (.int (2 : Int32)), .val (.int (1 : Int32)), .val (.int (1 : Int32)), .unset, .unset] [(.int (1 : Int32)), (.ref ar)])) _
  refine X0.laload hx (j := (1 : Int32)) (v := (.long x1)) (by rw [e0]; exact Ar1.1) (State.isArrayOf_alike hZ.alike Ar1.2.1) Ar1.2.2 hin1 hat1 (g := (mkF m 17 #[.val (.ref ar), .val (.int (0 : Int32)), .val (.int (2 : Int32)), .val (.int (1 : Int32)), .val (.int (1 : Int32)), .unset, .unset] [(.int (1 : Int32)), (.ref ar)])) rfl rfl (hb hby d4_17) _ ?_
  show Steps p.tables e below (T0.setTop (mkF m 18 #[.val (.ref ar), .val (.int (0 : Int32)), .val (.int (2 : Int32)), .val (.int (1 : Int32)), .val (.int (1 : Int32)), .unset, .unset] [(.long x1)])) _
  refine XS.lstore X0.here hx rfl (hb hby d4_18) rfl (l' := #[.val (.ref ar), .val (.int (0 : Int32)), .val (.int (2 : Int32)), .val (.int (1 : Int32)), .val (.int (1 : Int32)), .val (.long x1), .second]) rfl ?_
  show Steps p.tables e below (T0.setTop (mkF m 20 #[.val (.ref ar), .val (.int (0 : Int32)), .val (.int (2 : Int32)), .val (.int (1 : Int32)), .val (.int (1 : Int32)), .val (.long x1), .second] [])) _
  refine XS.lload X0.here hx rfl (hb hby d4_20) rfl ?_
  show Steps p.tables e below (T0.setTop (mkF m 22 #[.val (.ref ar), .val (.int (0 : Int32)), .val (.int (2 : Int32)), .val (.int (1 : Int32)), .val (.int (1 : Int32)), .val (.long x1), .second] [(.long x1)])) _
  refine XS.aloadN X0.here hx rfl (hb hby d4_22) rfl rfl ?_
  show Steps p.tables e below (T0.setTop (mkF m 23 #[.val (.ref ar), .val (.int (0 : Int32)), .val (.int (2 : Int32)), .val (.int (1 : Int32)), .val (.int (1 : Int32)), .val (.long x1), .second] [(.ref ar), (.long x1)])) _
  refine XS.iloadN X0.here hx rfl (hb hby d4_23) rfl ?_
  show Steps p.tables e below (T0.setTop (mkF m 24 #[.val (.ref ar), .val (.int (0 : Int32)), .val (.int (2 : Int32)), .val (.int (1 : Int32)), .val (.int (1 : Int32)), .val (.long x1), .second] [(.int (1 : Int32)), (.ref ar), (.long x1)])) _
  refine XS.iconst X0.here hx rfl (hb hby d4_24) ?_
  show Steps p.tables e below (T0.setTop (mkF m 25 #[.val (.ref ar), .val (.int (0 : Int32)), .val (.int (2 : Int32)), .val (.int (1 : Int32)), .val (.int (1 : Int32)), .val (.long x1), .second] [(.int (1 : Int32)), (.int (1 : Int32)), (.ref ar), (.long x1)])) _
  refine XS.isub X0.here hx rfl (hb hby d4_25) rfl ?_
  show Steps p.tables e below (T0.setTop (mkF m 26 #[.val (.ref ar), .val (.int (0 : Int32)), .val (.int (2 : Int32)), .val (.int (1 : Int32)), .val (.int (1 : Int32)), .val (.long x1), .second] [(.int ((1 : Int32) - (1 : Int32))), (.ref ar), (.long x1)])) _
  rw [show ((1 : Int32) - (1 : Int32)) = (0 : Int32) from by decide]
  show Steps p.tables e below (T0.setTop (mkF m 26 #[.val (.ref ar), .val (.int (0 : Int32)), .val (.int (2 : Int32)), .val (.int (1 : Int32)), .val (.int (1 : Int32)), .val (.long x1), .second] [(.int (0 : Int32)), (.ref ar), (.long x1)])) _
  refine X0.laload hx (j := (0 : Int32)) (v := (.long x0)) (by rw [e0]; exact Ar2.1) (State.isArrayOf_alike hZ.alike Ar2.2.1) Ar2.2.2 hin2 hat2 (g := (mkF m 26 #[.val (.ref ar), .val (.int (0 : Int32)), .val (.int (2 : Int32)), .val (.int (1 : Int32)), .val (.int (1 : Int32)), .val (.long x1), .second] [(.int (0 : Int32)), (.ref ar), (.long x1)])) rfl rfl (hb hby d4_26) _ ?_
  show Steps p.tables e below (T0.setTop (mkF m 27 #[.val (.ref ar), .val (.int (0 : Int32)), .val (.int (2 : Int32)), .val (.int (1 : Int32)), .val (.int (1 : Int32)), .val (.long x1), .second] [(.long x0), (.long x1)])) _
  refine XS.lcmp X0.here hx rfl (hb hby d4_27) rfl ?_
  show Steps p.tables e below (T0.setTop (mkF m 28 #[.val (.ref ar), .val (.int (0 : Int32)), .val (.int (2 : Int32)), .val (.int (1 : Int32)), .val (.int (1 : Int32)), .val (.long x1), .second] [(.int (lcmpW x1 x0))])) _
  refine XS.ifNo X0.here hx rfl (hb hby d4_28) rfl ((if0 _ _).trans (tlt hc28).2.1) ?_
  show Steps p.tables e below (T0.setTop (mkF m 31 #[.val (.ref ar), .val (.int (0 : Int32)), .val (.int (2 : Int32)), .val (.int (1 : Int32)), .val (.int (1 : Int32)), .val (.long x1), .second] [])) _
  refine XS.iinc X0.here hx rfl (hb hby d4_31) rfl (l' := #[.val (.ref ar), .val (.int (0 : Int32)), .val (.int (2 : Int32)), .val (.int ((1 : Int32) + (-1 : Int32))), .val (.int (1 : Int32)), .val (.long x1), .second]) rfl ?_
  show Steps p.tables e below (T0.setTop (mkF m 34 #[.val (.ref ar), .val (.int (0 : Int32)), .val (.int (2 : Int32)), .val (.int ((1 : Int32) + (-1 : Int32))), .val (.int (1 : Int32)), .val (.long x1), .second] [])) _
  rw [show ((1 : Int32) + (-1 : Int32)) = (0 : Int32) from by decide]
  show Steps p.tables e below (T0.setTop (mkF m 34 #[.val (.ref ar), .val (.int (0 : Int32)), .val (.int (2 : Int32)), .val (.int (0 : Int32)), .val (.int (1 : Int32)), .val (.long x1), .second] [])) _
  refine XS.iloadN X0.here hx rfl (hb hby d4_34) rfl ?_
  show Steps p.tables e below (T0.setTop (mkF m 35 #[.val (.ref ar), .val (.int (0 : Int32)), .val (.int (2 : Int32)), .val (.int (0 : Int32)), .val (.int (1 : Int32)), .val (.long x1), .second] [(.int (0 : Int32))])) _
  refine XS.iloadN X0.here hx rfl (hb hby d4_35) rfl ?_
  show Steps p.tables e below (T0.setTop (mkF m 36 #[.val (.ref ar), .val (.int (0 : Int32)), .val (.int (2 : Int32)), .val (.int (0 : Int32)), .val (.int (1 : Int32)), .val (.long x1), .second] [(.int (0 : Int32)), (.int (0 : Int32))])) _
  refine XS.icmpNo X0.here hx rfl (hb hby d4_36) rfl (flt (by decide : ¬ ((0 : Int32) < (0 : Int32)))).1 ?_
  show Steps p.tables e below (T0.setTop (mkF m 39 #[.val (.ref ar), .val (.int (0 : Int32)), .val (.int (2 : Int32)), .val (.int (0 : Int32)), .val (.int (1 : Int32)), .val (.long x1), .second] [])) _
  refine XS.lload X0.here hx rfl (hb hby d4_39) rfl ?_
  show Steps p.tables e below (T0.setTop (mkF m 41 #[.val (.ref ar), .val (.int (0 : Int32)), .val (.int (2 : Int32)), .val (.int (0 : Int32)), .val (.int (1 : Int32)), .val (.long x1), .second] [(.long x1)])) _
  refine XS.aloadN X0.here hx rfl (hb hby d4_41) rfl rfl ?_
  show Steps p.tables e below (T0.setTop (mkF m 42 #[.val (.ref ar), .val (.int (0 : Int32)), .val (.int (2 : Int32)), .val (.int (0 : Int32)), .val (.int (1 : Int32)), .val (.long x1), .second] [(.ref ar), (.long x1)])) _
  refine XS.iloadN X0.here hx rfl (hb hby d4_42) rfl ?_
  show Steps p.tables e below (T0.setTop (mkF m 43 #[.val (.ref ar), .val (.int (0 : Int32)), .val (.int (2 : Int32)), .val (.int (0 : Int32)), .val (.int (1 : Int32)), .val (.long x1), .second] [(.int (0 : Int32)), (.ref ar), (.long x1)])) _
  refine X0.laload hx (j := (0 : Int32)) (v := (.long x0)) (by rw [e0]; exact Ar3.1) (State.isArrayOf_alike hZ.alike Ar3.2.1) Ar3.2.2 hin3 hat3 (g := (mkF m 43 #[.val (.ref ar), .val (.int (0 : Int32)), .val (.int (2 : Int32)), .val (.int (0 : Int32)), .val (.int (1 : Int32)), .val (.long x1), .second] [(.int (0 : Int32)), (.ref ar), (.long x1)])) rfl rfl (hb hby d4_43) _ ?_
  show Steps p.tables e below (T0.setTop (mkF m 44 #[.val (.ref ar), .val (.int (0 : Int32)), .val (.int (2 : Int32)), .val (.int (0 : Int32)), .val (.int (1 : Int32)), .val (.long x1), .second] [(.long x0), (.long x1)])) _
  refine XS.lcmp X0.here hx rfl (hb hby d4_44) rfl ?_
  show Steps p.tables e below (T0.setTop (mkF m 45 #[.val (.ref ar), .val (.int (0 : Int32)), .val (.int (2 : Int32)), .val (.int (0 : Int32)), .val (.int (1 : Int32)), .val (.long x1), .second] [(.int (lcmpW x1 x0))])) _
  refine XS.ifNo X0.here hx rfl (hb hby d4_45) rfl ((if0 _ _).trans (tlt hc28).2.1) ?_
  show Steps p.tables e below (T0.setTop (mkF m 48 #[.val (.ref ar), .val (.int (0 : Int32)), .val (.int (2 : Int32)), .val (.int (0 : Int32)), .val (.int (1 : Int32)), .val (.long x1), .second] [])) _
  refine XS.aloadN X0.here hx rfl (hb hby d4_48) rfl rfl ?_
  show Steps p.tables e below (T0.setTop (mkF m 49 #[.val (.ref ar), .val (.int (0 : Int32)), .val (.int (2 : Int32)), .val (.int (0 : Int32)), .val (.int (1 : Int32)), .val (.long x1), .second] [(.ref ar)])) _
  refine XS.iloadN X0.here hx rfl (hb hby d4_49) rfl ?_
  show Steps p.tables e below (T0.setTop (mkF m 50 #[.val (.ref ar), .val (.int (0 : Int32)), .val (.int (2 : Int32)), .val (.int (0 : Int32)), .val (.int (1 : Int32)), .val (.long x1), .second] [(.int (0 : Int32)), (.ref ar)])) _
  refine XS.iconst X0.here hx rfl (hb hby d4_50) ?_
  show Steps p.tables e below (T0.setTop (mkF m 51 #[.val (.ref ar), .val (.int (0 : Int32)), .val (.int (2 : Int32)), .val (.int (0 : Int32)), .val (.int (1 : Int32)), .val (.long x1), .second] [(.int (1 : Int32)), (.int (0 : Int32)), (.ref ar)])) _
  refine XS.iadd X0.here hx rfl (hb hby d4_51) rfl ?_
  show Steps p.tables e below (T0.setTop (mkF m 52 #[.val (.ref ar), .val (.int (0 : Int32)), .val (.int (2 : Int32)), .val (.int (0 : Int32)), .val (.int (1 : Int32)), .val (.long x1), .second] [(.int ((0 : Int32) + (1 : Int32))), (.ref ar)])) _
  rw [show ((0 : Int32) + (1 : Int32)) = (1 : Int32) from by decide]
  show Steps p.tables e below (T0.setTop (mkF m 52 #[.val (.ref ar), .val (.int (0 : Int32)), .val (.int (2 : Int32)), .val (.int (0 : Int32)), .val (.int (1 : Int32)), .val (.long x1), .second] [(.int (1 : Int32)), (.ref ar)])) _
  refine XS.aloadN X0.here hx rfl (hb hby d4_52) rfl rfl ?_
  show Steps p.tables e below (T0.setTop (mkF m 53 #[.val (.ref ar), .val (.int (0 : Int32)), .val (.int (2 : Int32)), .val (.int (0 : Int32)), .val (.int (1 : Int32)), .val (.long x1), .second] [(.ref ar), (.int (1 : Int32)), (.ref ar)])) _
  refine XS.iloadN X0.here hx rfl (hb hby d4_53) rfl ?_
  show Steps p.tables e below (T0.setTop (mkF m 54 #[.val (.ref ar), .val (.int (0 : Int32)), .val (.int (2 : Int32)), .val (.int (0 : Int32)), .val (.int (1 : Int32)), .val (.long x1), .second] [(.int (0 : Int32)), (.ref ar), (.int (1 : Int32)), (.ref ar)])) _
  refine X0.laload hx (j := (0 : Int32)) (v := (.long x0)) (by rw [e0]; exact Ar4.1) (State.isArrayOf_alike hZ.alike Ar4.2.1) Ar4.2.2 hin4 hat4 (g := (mkF m 54 #[.val (.ref ar), .val (.int (0 : Int32)), .val (.int (2 : Int32)), .val (.int (0 : Int32)), .val (.int (1 : Int32)), .val (.long x1), .second] [(.int (0 : Int32)), (.ref ar), (.int (1 : Int32)), (.ref ar)])) rfl rfl (hb hby d4_54) _ ?_
  show Steps p.tables e below (T0.setTop (mkF m 55 #[.val (.ref ar), .val (.int (0 : Int32)), .val (.int (2 : Int32)), .val (.int (0 : Int32)), .val (.int (1 : Int32)), .val (.long x1), .second] [(.long x0), (.int (1 : Int32)), (.ref ar)])) _
  refine st5 _ ?_
  show Steps p.tables e below (T5.setTop (mkF m 56 #[.val (.ref ar), .val (.int (0 : Int32)), .val (.int (2 : Int32)), .val (.int (0 : Int32)), .val (.int (1 : Int32)), .val (.long x1), .second] [])) _
  refine XS.goto X5.here hx rfl (pc0 := 56) (pc' := 31) rfl (hb hby d4_56) (by decide) (by decide) ?_
  show Steps p.tables e below (T5.setTop (mkF m 31 #[.val (.ref ar), .val (.int (0 : Int32)), .val (.int (2 : Int32)), .val (.int (0 : Int32)), .val (.int (1 : Int32)), .val (.long x1), .second] [])) _
  refine XS.iinc X5.here hx rfl (hb hby d4_31) rfl (l' := #[.val (.ref ar), .val (.int (0 : Int32)), .val (.int (2 : Int32)), .val (.int ((0 : Int32) + (-1 : Int32))), .val (.int (1 : Int32)), .val (.long x1), .second]) rfl ?_
  show Steps p.tables e below (T5.setTop (mkF m 34 #[.val (.ref ar), .val (.int (0 : Int32)), .val (.int (2 : Int32)), .val (.int ((0 : Int32) + (-1 : Int32))), .val (.int (1 : Int32)), .val (.long x1), .second] [])) _
  rw [show ((0 : Int32) + (-1 : Int32)) = (-1 : Int32) from by decide]
  show Steps p.tables e below (T5.setTop (mkF m 34 #[.val (.ref ar), .val (.int (0 : Int32)), .val (.int (2 : Int32)), .val (.int (-1 : Int32)), .val (.int (1 : Int32)), .val (.long x1), .second] [])) _
  refine XS.iloadN X5.here hx rfl (hb hby d4_34) rfl ?_
  show Steps p.tables e below (T5.setTop (mkF m 35 #[.val (.ref ar), .val (.int (0 : Int32)), .val (.int (2 : Int32)), .val (.int (-1 : Int32)), .val (.int (1 : Int32)), .val (.long x1), .second] [(.int (-1 : Int32))])) _
  refine XS.iloadN X5.here hx rfl (hb hby d4_35) rfl ?_
  show Steps p.tables e below (T5.setTop (mkF m 36 #[.val (.ref ar), .val (.int (0 : Int32)), .val (.int (2 : Int32)), .val (.int (-1 : Int32)), .val (.int (1 : Int32)), .val (.long x1), .second] [(.int (0 : Int32)), (.int (-1 : Int32))])) _
  refine XS.icmpYes X5.here hx rfl (pc0 := 36) (pc' := 59) rfl (hb hby d4_36) rfl (tlt (by decide : (-1 : Int32) < (0 : Int32))).1 (by decide) (by decide) ?_
  show Steps p.tables e below (T5.setTop (mkF m 59 #[.val (.ref ar), .val (.int (0 : Int32)), .val (.int (2 : Int32)), .val (.int (-1 : Int32)), .val (.int (1 : Int32)), .val (.long x1), .second] [])) _
  refine XS.aloadN X5.here hx rfl (hb hby d4_59) rfl rfl ?_
  show Steps p.tables e below (T5.setTop (mkF m 60 #[.val (.ref ar), .val (.int (0 : Int32)), .val (.int (2 : Int32)), .val (.int (-1 : Int32)), .val (.int (1 : Int32)), .val (.long x1), .second] [(.ref ar)])) _
  refine XS.iloadN X5.here hx rfl (hb hby d4_60) rfl ?_
  show Steps p.tables e below (T5.setTop (mkF m 61 #[.val (.ref ar), .val (.int (0 : Int32)), .val (.int (2 : Int32)), .val (.int (-1 : Int32)), .val (.int (1 : Int32)), .val (.long x1), .second] [(.int (-1 : Int32)), (.ref ar)])) _
  refine XS.iconst X5.here hx rfl (hb hby d4_61) ?_
  show Steps p.tables e below (T5.setTop (mkF m 62 #[.val (.ref ar), .val (.int (0 : Int32)), .val (.int (2 : Int32)), .val (.int (-1 : Int32)), .val (.int (1 : Int32)), .val (.long x1), .second] [(.int (1 : Int32)), (.int (-1 : Int32)), (.ref ar)])) _
  refine XS.iadd X5.here hx rfl (hb hby d4_62) rfl ?_
  show Steps p.tables e below (T5.setTop (mkF m 63 #[.val (.ref ar), .val (.int (0 : Int32)), .val (.int (2 : Int32)), .val (.int (-1 : Int32)), .val (.int (1 : Int32)), .val (.long x1), .second] [(.int ((-1 : Int32) + (1 : Int32))), (.ref ar)])) _
  rw [show ((-1 : Int32) + (1 : Int32)) = (0 : Int32) from by decide]
  show Steps p.tables e below (T5.setTop (mkF m 63 #[.val (.ref ar), .val (.int (0 : Int32)), .val (.int (2 : Int32)), .val (.int (-1 : Int32)), .val (.int (1 : Int32)), .val (.long x1), .second] [(.int (0 : Int32)), (.ref ar)])) _
  refine XS.lload X5.here hx rfl (hb hby d4_63) rfl ?_
  show Steps p.tables e below (T5.setTop (mkF m 65 #[.val (.ref ar), .val (.int (0 : Int32)), .val (.int (2 : Int32)), .val (.int (-1 : Int32)), .val (.int (1 : Int32)), .val (.long x1), .second] [(.long x1), (.int (0 : Int32)), (.ref ar)])) _
  refine st6 _ ?_
  show Steps p.tables e below (T6.setTop (mkF m 66 #[.val (.ref ar), .val (.int (0 : Int32)), .val (.int (2 : Int32)), .val (.int (-1 : Int32)), .val (.int (1 : Int32)), .val (.long x1), .second] [])) _
  refine XS.goto X6.here hx rfl (pc0 := 66) (pc' := 3) rfl (hb hby d4_66) (by decide) (by decide) ?_
  exact kt
set_option maxRecDepth 65536 in
set_option maxHeartbeats 40000000 in
theorem tn3_1_0 {p : Program} {l : Launch} {e : Env} {R : Room} {s : State} {m : MethodId} {args : Array Value} {below : List Frame} {meth : Method} {c : Code} {T0 : State} {locs : List Loc} {cells slots : Nat} {Z : State} {a0 : Array Value} {h0 : Heap} {n0 : Nat} (ka : ClassId) (x0 : Int64) (x1 : Int64) (x2 : Int64) (ar : Addr)
    (X0 : Stand p l e R s m args below meth c T0 locs cells slots) (hx : p.tables.exec = Jvm.exec) (hZ : Z.Warmed39 s.vm) (hw : ∀ d ∈ tables_1, d.before a0 Z = true) (hby : c.code = jdk_2529_method_15_code) (hml : c.maxLocals = 7) (hown : s.vm.findClass "java/util/DualPivotQuicksort" = some m.cls) (e0 : T0.heap = h0) (N0 : Fr n0 locs) (Z0 : n0 ≤ h0.size) (V_ar : Arv Z h0 ar ka .long (3 : Int32) [(.long x0), (.long x1), (.long x2)] (.long (0 : Int64))) (hc28 : ¬ ((lcmpW x1 x0) < (0 : Int32))) :
    ∃ (T' : State) (h' : Heap) (locs' : List Loc), Stand p l e R s m args below meth c T' locs' cells slots ∧ T'.heap = h' ∧ Fr n0 locs' ∧ h' = h0 ∧ Arv Z h' ar ka .long (3 : Int32) [(.long x0), (.long x1), (.long x2)] (.long (0 : Int64)) ∧ ∀ target, Steps p.tables e below (T'.setTop (mkF m 3 #[.val (.ref ar), .val (.int (0 : Int32)), .val (.int (3 : Int32)), .val (.int (1 : Int32)), .val (.int (1 : Int32)), .val (.long x1), .second] [])) target → Steps p.tables e below (T0.setTop (mkF m 3 #[.val (.ref ar), .val (.int (0 : Int32)), .val (.int (3 : Int32)), .unset, .val (.int (0 : Int32)), .unset, .unset] [])) target := by
  have Vc1 := V_ar
  obtain ⟨cl1, Ar1, q1, S1, M1, H1, G1⟩ := Vc1
  have hin1 : ¬ ((1 : Int32) < 0 ∨ cl1.slots.size ≤ ((1 : Int32)).toNatClampNeg) := inb_of S1 ⟨by decide, by decide⟩
  have hat1 : cl1.slots[((1 : Int32)).toNatClampNeg]? = some (.long x1) := Has.at H1 hin1 rfl
  have Vc2 := V_ar
  obtain ⟨cl2, Ar2, q2, S2, M2, H2, G2⟩ := Vc2
  have hin2 : ¬ ((0 : Int32) < 0 ∨ cl2.slots.size ≤ ((0 : Int32)).toNatClampNeg) := inb_of S2 ⟨by decide, by decide⟩
  have hat2 : cl2.slots[((0 : Int32)).toNatClampNeg]? = some (.long x0) := Has.at H2 hin2 rfl
  refine ⟨T0, h0, _, X0, e0, N0, rfl, V_ar, fun target kt => ?_⟩
  show Steps p.tables e below (T0.setTop (mkF m 3 #[.val (.ref ar), .val (.int (0 : Int32)), .val (.int (3 : Int32)), .unset, .val (.int (0 : Int32)), .unset, .unset] [])) _
  refine XS.iinc X0.here hx rfl (hb hby d4_3) rfl (l' := #[.val (.ref ar), .val (.int (0 : Int32)), .val (.int (3 : Int32)), .unset, .val (.int ((0 : Int32) + (1 : Int32))), .unset, .unset]) rfl ?_
  show Steps p.tables e below (T0.setTop (mkF m 6 #[.val (.ref ar), .val (.int (0 : Int32)), .val (.int (3 : Int32)), .unset, .val (.int ((0 : Int32) + (1 : Int32))), .unset, .unset] [])) _
  rw [show ((0 : Int32) + (1 : Int32)) = (1 : Int32) from by decide]
  show Steps p.tables e below (T0.setTop (mkF m 6 #[.val (.ref ar), .val (.int (0 : Int32)), .val (.int (3 : Int32)), .unset, .val (.int (1 : Int32)), .unset, .unset] [])) _
  refine XS.iload X0.here hx rfl (hb hby d4_6) rfl ?_
  show Steps p.tables e below (T0.setTop (mkF m 8 #[.val (.ref ar), .val (.int (0 : Int32)), .val (.int (3 : Int32)), .unset, .val (.int (1 : Int32)), .unset, .unset] [(.int (1 : Int32))])) _
  refine XS.iloadN X0.here hx rfl (hb hby d4_8) rfl ?_
  show Steps p.tables e below (T0.setTop (mkF m 9 #[.val (.ref ar), .val (.int (0 : Int32)), .val (.int (3 : Int32)), .unset, .val (.int (1 : Int32)), .unset, .unset] [(.int (3 : Int32)), (.int (1 : Int32))])) _
  refine XS.icmpNo X0.here hx rfl (hb hby d4_9) rfl (tlt (by decide : (1 : Int32) < (3 : Int32))).2.1 ?_
  show Steps p.tables e below (T0.setTop (mkF m 12 #[.val (.ref ar), .val (.int (0 : Int32)), .val (.int (3 : Int32)), .unset, .val (.int (1 : Int32)), .unset, .unset] [])) _
  refine XS.aloadN X0.here hx rfl (hb hby d4_12) rfl rfl ?_
  show Steps p.tables e below (T0.setTop (mkF m 13 #[.val (.ref ar), .val (.int (0 : Int32)), .val (.int (3 : Int32)), .unset, .val (.int (1 : Int32)), .unset, .unset] [(.ref ar)])) _
  refine XS.iload X0.here hx rfl (hb hby d4_13) rfl ?_
  show Steps p.tables e below (T0.setTop (mkF m 15 #[.val (.ref ar), .val (.int (0 : Int32)), .val (.int (3 : Int32)), .unset, .val (.int (1 : Int32)), .unset, .unset] [(.int (1 : Int32)), (.ref ar)])) _
  refine XS.dup X0.here hx rfl (hb hby d4_15) rfl rfl ?_
  show Steps p.tables e below (T0.setTop (mkF m 16 #[.val (.ref ar), .val (.int (0 : Int32)), .val (.int (3 : Int32)), .unset, .val (.int (1 : Int32)), .unset, .unset] [(.int (1 : Int32)), (.int (1 : Int32)), (.ref ar)])) _
  refine XS.istoreN X0.here hx rfl (hb hby d4_16) rfl (l' := #[.val (.ref ar), .val (.int (0 : Int32)), .val (.int (3 : Int32)), .val (.int (1 : Int32)), .val (.int (1 : Int32)), .unset, .unset]) rfl ?_
  show Steps p.tables e below (T0.setTop (mkF m 17 #[.val (.ref ar), .val (.int (0 : Int32)), .val (.int (3 : Int32)), .val (.int (1 : Int32)), .val (.int (1 : Int32)), .unset, .unset] [(.int (1 : Int32)), (.ref ar)])) _
  refine X0.laload hx (j := (1 : Int32)) (v := (.long x1)) (by rw [e0]; exact Ar1.1) (State.isArrayOf_alike hZ.alike Ar1.2.1) Ar1.2.2 hin1 hat1 (g := (mkF m 17 #[.val (.ref ar), .val (.int (0 : Int32)), .val (.int (3 : Int32)), .val (.int (1 : Int32)), .val (.int (1 : Int32)), .unset, .unset] [(.int (1 : Int32)), (.ref ar)])) rfl rfl (hb hby d4_17) _ ?_
  show Steps p.tables e below (T0.setTop (mkF m 18 #[.val (.ref ar), .val (.int (0 : Int32)), .val (.int (3 : Int32)), .val (.int (1 : Int32)), .val (.int (1 : Int32)), .unset, .unset] [(.long x1)])) _
  refine XS.lstore X0.here hx rfl (hb hby d4_18) rfl (l' := #[.val (.ref ar), .val (.int (0 : Int32)), .val (.int (3 : Int32)), .val (.int (1 : Int32)), .val (.int (1 : Int32)), .val (.long x1), .second]) rfl ?_
  show Steps p.tables e below (T0.setTop (mkF m 20 #[.val (.ref ar), .val (.int (0 : Int32)), .val (.int (3 : Int32)), .val (.int (1 : Int32)), .val (.int (1 : Int32)), .val (.long x1), .second] [])) _
  refine XS.lload X0.here hx rfl (hb hby d4_20) rfl ?_
  show Steps p.tables e below (T0.setTop (mkF m 22 #[.val (.ref ar), .val (.int (0 : Int32)), .val (.int (3 : Int32)), .val (.int (1 : Int32)), .val (.int (1 : Int32)), .val (.long x1), .second] [(.long x1)])) _
  refine XS.aloadN X0.here hx rfl (hb hby d4_22) rfl rfl ?_
  show Steps p.tables e below (T0.setTop (mkF m 23 #[.val (.ref ar), .val (.int (0 : Int32)), .val (.int (3 : Int32)), .val (.int (1 : Int32)), .val (.int (1 : Int32)), .val (.long x1), .second] [(.ref ar), (.long x1)])) _
  refine XS.iloadN X0.here hx rfl (hb hby d4_23) rfl ?_
  show Steps p.tables e below (T0.setTop (mkF m 24 #[.val (.ref ar), .val (.int (0 : Int32)), .val (.int (3 : Int32)), .val (.int (1 : Int32)), .val (.int (1 : Int32)), .val (.long x1), .second] [(.int (1 : Int32)), (.ref ar), (.long x1)])) _
  refine XS.iconst X0.here hx rfl (hb hby d4_24) ?_
  show Steps p.tables e below (T0.setTop (mkF m 25 #[.val (.ref ar), .val (.int (0 : Int32)), .val (.int (3 : Int32)), .val (.int (1 : Int32)), .val (.int (1 : Int32)), .val (.long x1), .second] [(.int (1 : Int32)), (.int (1 : Int32)), (.ref ar), (.long x1)])) _
  refine XS.isub X0.here hx rfl (hb hby d4_25) rfl ?_
  show Steps p.tables e below (T0.setTop (mkF m 26 #[.val (.ref ar), .val (.int (0 : Int32)), .val (.int (3 : Int32)), .val (.int (1 : Int32)), .val (.int (1 : Int32)), .val (.long x1), .second] [(.int ((1 : Int32) - (1 : Int32))), (.ref ar), (.long x1)])) _
  rw [show ((1 : Int32) - (1 : Int32)) = (0 : Int32) from by decide]
  show Steps p.tables e below (T0.setTop (mkF m 26 #[.val (.ref ar), .val (.int (0 : Int32)), .val (.int (3 : Int32)), .val (.int (1 : Int32)), .val (.int (1 : Int32)), .val (.long x1), .second] [(.int (0 : Int32)), (.ref ar), (.long x1)])) _
  refine X0.laload hx (j := (0 : Int32)) (v := (.long x0)) (by rw [e0]; exact Ar2.1) (State.isArrayOf_alike hZ.alike Ar2.2.1) Ar2.2.2 hin2 hat2 (g := (mkF m 26 #[.val (.ref ar), .val (.int (0 : Int32)), .val (.int (3 : Int32)), .val (.int (1 : Int32)), .val (.int (1 : Int32)), .val (.long x1), .second] [(.int (0 : Int32)), (.ref ar), (.long x1)])) rfl rfl (hb hby d4_26) _ ?_
  show Steps p.tables e below (T0.setTop (mkF m 27 #[.val (.ref ar), .val (.int (0 : Int32)), .val (.int (3 : Int32)), .val (.int (1 : Int32)), .val (.int (1 : Int32)), .val (.long x1), .second] [(.long x0), (.long x1)])) _
  refine XS.lcmp X0.here hx rfl (hb hby d4_27) rfl ?_
  show Steps p.tables e below (T0.setTop (mkF m 28 #[.val (.ref ar), .val (.int (0 : Int32)), .val (.int (3 : Int32)), .val (.int (1 : Int32)), .val (.int (1 : Int32)), .val (.long x1), .second] [(.int (lcmpW x1 x0))])) _
  refine XS.ifYes X0.here hx rfl (pc0 := 28) (pc' := 66) rfl (hb hby d4_28) rfl ((if0 _ _).trans (flt hc28).2.1) (by decide) (by decide) ?_
  show Steps p.tables e below (T0.setTop (mkF m 66 #[.val (.ref ar), .val (.int (0 : Int32)), .val (.int (3 : Int32)), .val (.int (1 : Int32)), .val (.int (1 : Int32)), .val (.long x1), .second] [])) _
  refine XS.goto X0.here hx rfl (pc0 := 66) (pc' := 3) rfl (hb hby d4_66) (by decide) (by decide) ?_
  exact kt
set_option maxRecDepth 65536 in
set_option maxHeartbeats 40000000 in
theorem tn3_1_1 {p : Program} {l : Launch} {e : Env} {R : Room} {s : State} {m : MethodId} {args : Array Value} {below : List Frame} {meth : Method} {c : Code} {T0 : State} {locs : List Loc} {cells slots : Nat} {Z : State} {a0 : Array Value} {h0 : Heap} {n0 : Nat} (ka : ClassId) (x0 : Int64) (x1 : Int64) (x2 : Int64) (ar : Addr)
    (X0 : Stand p l e R s m args below meth c T0 locs cells slots) (hx : p.tables.exec = Jvm.exec) (hZ : Z.Warmed39 s.vm) (hw : ∀ d ∈ tables_1, d.before a0 Z = true) (hby : c.code = jdk_2529_method_15_code) (hml : c.maxLocals = 7) (hown : s.vm.findClass "java/util/DualPivotQuicksort" = some m.cls) (e0 : T0.heap = h0) (N0 : Fr n0 locs) (Z0 : n0 ≤ h0.size) (V_ar : Arv Z h0 ar ka .long (3 : Int32) [(.long x0), (.long x1), (.long x2)] (.long (0 : Int64))) (hc28 : (lcmpW x1 x0) < (0 : Int32)) (g_ar : n0 ≤ ar) :
    ∃ (T' : State) (h' : Heap) (locs' : List Loc), Stand p l e R s m args below meth c T' locs' cells slots ∧ T'.heap = h' ∧ Fr n0 locs' ∧ Keep h0 h' [ar] ∧ Arv Z h' ar ka .long (3 : Int32) [(.long x1), (.long x0), (.long x2)] (.long (0 : Int64)) ∧ ∀ target, Steps p.tables e below (T'.setTop (mkF m 3 #[.val (.ref ar), .val (.int (0 : Int32)), .val (.int (3 : Int32)), .val (.int (-1 : Int32)), .val (.int (1 : Int32)), .val (.long x1), .second] [])) target → Steps p.tables e below (T0.setTop (mkF m 3 #[.val (.ref ar), .val (.int (0 : Int32)), .val (.int (3 : Int32)), .unset, .val (.int (0 : Int32)), .unset, .unset] [])) target := by
  have Vc1 := V_ar
  obtain ⟨cl1, Ar1, q1, S1, M1, H1, G1⟩ := Vc1
  have hin1 : ¬ ((1 : Int32) < 0 ∨ cl1.slots.size ≤ ((1 : Int32)).toNatClampNeg) := inb_of S1 ⟨by decide, by decide⟩
  have hat1 : cl1.slots[((1 : Int32)).toNatClampNeg]? = some (.long x1) := Has.at H1 hin1 rfl
  have Vc2 := V_ar
  obtain ⟨cl2, Ar2, q2, S2, M2, H2, G2⟩ := Vc2
  have hin2 : ¬ ((0 : Int32) < 0 ∨ cl2.slots.size ≤ ((0 : Int32)).toNatClampNeg) := inb_of S2 ⟨by decide, by decide⟩
  have hat2 : cl2.slots[((0 : Int32)).toNatClampNeg]? = some (.long x0) := Has.at H2 hin2 rfl
  have Vc3 := V_ar
  obtain ⟨cl3, Ar3, q3, S3, M3, H3, G3⟩ := Vc3
  have hin3 : ¬ ((0 : Int32) < 0 ∨ cl3.slots.size ≤ ((0 : Int32)).toNatClampNeg) := inb_of S3 ⟨by decide, by decide⟩
  have hat3 : cl3.slots[((0 : Int32)).toNatClampNeg]? = some (.long x0) := Has.at H3 hin3 rfl
  have Vc4 := V_ar
  obtain ⟨cl4, Ar4, q4, S4, M4, H4, G4⟩ := Vc4
  have hin4 : ¬ ((0 : Int32) < 0 ∨ cl4.slots.size ≤ ((0 : Int32)).toNatClampNeg) := inb_of S4 ⟨by decide, by decide⟩
  have hat4 : cl4.slots[((0 : Int32)).toNatClampNeg]? = some (.long x0) := Has.at H4 hin4 rfl
  have Vc5 := V_ar
  obtain ⟨cl5, Ar5, q5, S5, M5, H5, G5⟩ := Vc5
  have hin5 : ¬ ((1 : Int32) < 0 ∨ cl5.slots.size ≤ ((1 : Int32)).toNatClampNeg) := inb_of S5 ⟨by decide, by decide⟩
  obtain ⟨T5, h5, X5, e5, W5, st5⟩ := stJ X0 hx hZ e0 Ar5 (j := (1 : Int32)) hin5 (g := (mkF m 55 #[.val (.ref ar), .val (.int (0 : Int32)), .val (.int (3 : Int32)), .val (.int (0 : Int32)), .val (.int (1 : Int32)), .val (.long x1), .second] [(.long x0), (.int (1 : Int32)), (.ref ar)])) rfl rfl (hb hby d4_55)
  have V5 : Arv Z h5 ar ka .long (3 : Int32) [(.long x0), (.long x0), (.long x2)] (.long (0 : Int64)) := Arv.set Ar5 q5 S5 M5 H5 G5 rfl W5 1 rfl (Nat.le_of_ble_eq_true rfl)
  have N5 := Fr.snoc X5 N0 g_ar
  have Vc6 := V5
  obtain ⟨cl6, Ar6, q6, S6, M6, H6, G6⟩ := Vc6
  have hin6 : ¬ ((0 : Int32) < 0 ∨ cl6.slots.size ≤ ((0 : Int32)).toNatClampNeg) := inb_of S6 ⟨by decide, by decide⟩
  obtain ⟨T6, h6, X6, e6, W6, st6⟩ := stJ X5 hx hZ e5 Ar6 (j := (0 : Int32)) hin6 (g := (mkF m 65 #[.val (.ref ar), .val (.int (0 : Int32)), .val (.int (3 : Int32)), .val (.int (-1 : Int32)), .val (.int (1 : Int32)), .val (.long x1), .second] [(.long x1), (.int (0 : Int32)), (.ref ar)])) rfl rfl (hb hby d4_65)
  have V6 : Arv Z h6 ar ka .long (3 : Int32) [(.long x1), (.long x0), (.long x2)] (.long (0 : Int64)) := Arv.set Ar6 q6 S6 M6 H6 G6 rfl W6 0 rfl (Nat.le_of_ble_eq_true rfl)
  have N6 := Fr.snoc X6 N5 g_ar
  refine ⟨T6, h6, _, X6, e6, N6, (((Keep.refl h0 [ar]).wr W5 (Or.inl (List.mem_of_getElem? (i := 0) rfl))).wr W6 (Or.inl (List.mem_of_getElem? (i := 0) rfl))), V6, fun target kt => ?_⟩
  show Steps p.tables e below (T0.setTop (mkF m 3 #[.val (.ref ar), .val (.int (0 : Int32)), .val (.int (3 : Int32)), .unset, .val (.int (0 : Int32)), .unset, .unset] [])) _
  refine XS.iinc X0.here hx rfl (hb hby d4_3) rfl (l' := #[.val (.ref ar), .val (.int (0 : Int32)), .val (.int (3 : Int32)), .unset, .val (.int ((0 : Int32) + (1 : Int32))), .unset, .unset]) rfl ?_
  show Steps p.tables e below (T0.setTop (mkF m 6 #[.val (.ref ar), .val (.int (0 : Int32)), .val (.int (3 : Int32)), .unset, .val (.int ((0 : Int32) + (1 : Int32))), .unset, .unset] [])) _
  rw [show ((0 : Int32) + (1 : Int32)) = (1 : Int32) from by decide]
  show Steps p.tables e below (T0.setTop (mkF m 6 #[.val (.ref ar), .val (.int (0 : Int32)), .val (.int (3 : Int32)), .unset, .val (.int (1 : Int32)), .unset, .unset] [])) _
  refine XS.iload X0.here hx rfl (hb hby d4_6) rfl ?_
  show Steps p.tables e below (T0.setTop (mkF m 8 #[.val (.ref ar), .val (.int (0 : Int32)), .val (.int (3 : Int32)), .unset, .val (.int (1 : Int32)), .unset, .unset] [(.int (1 : Int32))])) _
  refine XS.iloadN X0.here hx rfl (hb hby d4_8) rfl ?_
  show Steps p.tables e below (T0.setTop (mkF m 9 #[.val (.ref ar), .val (.int (0 : Int32)), .val (.int (3 : Int32)), .unset, .val (.int (1 : Int32)), .unset, .unset] [(.int (3 : Int32)), (.int (1 : Int32))])) _
  refine XS.icmpNo X0.here hx rfl (hb hby d4_9) rfl (tlt (by decide : (1 : Int32) < (3 : Int32))).2.1 ?_
  show Steps p.tables e below (T0.setTop (mkF m 12 #[.val (.ref ar), .val (.int (0 : Int32)), .val (.int (3 : Int32)), .unset, .val (.int (1 : Int32)), .unset, .unset] [])) _
  refine XS.aloadN X0.here hx rfl (hb hby d4_12) rfl rfl ?_
  show Steps p.tables e below (T0.setTop (mkF m 13 #[.val (.ref ar), .val (.int (0 : Int32)), .val (.int (3 : Int32)), .unset, .val (.int (1 : Int32)), .unset, .unset] [(.ref ar)])) _
  refine XS.iload X0.here hx rfl (hb hby d4_13) rfl ?_
  show Steps p.tables e below (T0.setTop (mkF m 15 #[.val (.ref ar), .val (.int (0 : Int32)), .val (.int (3 : Int32)), .unset, .val (.int (1 : Int32)), .unset, .unset] [(.int (1 : Int32)), (.ref ar)])) _
  refine XS.dup X0.here hx rfl (hb hby d4_15) rfl rfl ?_
  show Steps p.tables e below (T0.setTop (mkF m 16 #[.val (.ref ar), .val (.int (0 : Int32)), .val (.int (3 : Int32)), .unset, .val (.int (1 : Int32)), .unset, .unset] [(.int (1 : Int32)), (.int (1 : Int32)), (.ref ar)])) _
  refine XS.istoreN X0.here hx rfl (hb hby d4_16) rfl (l' := #[.val (.ref ar), .val (.int (0 : Int32)), .val (.int (3 : Int32)), .val (.int (1 : Int32)), .val (.int (1 : Int32)), .unset, .unset]) rfl ?_
  show Steps p.tables e below (T0.setTop (mkF m 17 #[.val (.ref ar), .val (.int (0 : Int32)), .val (.int (3 : Int32)), .val (.int (1 : Int32)), .val (.int (1 : Int32)), .unset, .unset] [(.int (1 : Int32)), (.ref ar)])) _
  refine X0.laload hx (j := (1 : Int32)) (v := (.long x1)) (by rw [e0]; exact Ar1.1) (State.isArrayOf_alike hZ.alike Ar1.2.1) Ar1.2.2 hin1 hat1 (g := (mkF m 17 #[.val (.ref ar), .val (.int (0 : Int32)), .val (.int (3 : Int32)), .val (.int (1 : Int32)), .val (.int (1 : Int32)), .unset, .unset] [(.int (1 : Int32)), (.ref ar)])) rfl rfl (hb hby d4_17) _ ?_
  show Steps p.tables e below (T0.setTop (mkF m 18 #[.val (.ref ar), .val (.int (0 : Int32)), .val (.int (3 : Int32)), .val (.int (1 : Int32)), .val (.int (1 : Int32)), .unset, .unset] [(.long x1)])) _
  refine XS.lstore X0.here hx rfl (hb hby d4_18) rfl (l' := #[.val (.ref ar), .val (.int (0 : Int32)), .val (.int (3 : Int32)), .val (.int (1 : Int32)), .val (.int (1 : Int32)), .val (.long x1), .second]) rfl ?_
  show Steps p.tables e below (T0.setTop (mkF m 20 #[.val (.ref ar), .val (.int (0 : Int32)), .val (.int (3 : Int32)), .val (.int (1 : Int32)), .val (.int (1 : Int32)), .val (.long x1), .second] [])) _
  refine XS.lload X0.here hx rfl (hb hby d4_20) rfl ?_
  show Steps p.tables e below (T0.setTop (mkF m 22 #[.val (.ref ar), .val (.int (0 : Int32)), .val (.int (3 : Int32)), .val (.int (1 : Int32)), .val (.int (1 : Int32)), .val (.long x1), .second] [(.long x1)])) _
  refine XS.aloadN X0.here hx rfl (hb hby d4_22) rfl rfl ?_
  show Steps p.tables e below (T0.setTop (mkF m 23 #[.val (.ref ar), .val (.int (0 : Int32)), .val (.int (3 : Int32)), .val (.int (1 : Int32)), .val (.int (1 : Int32)), .val (.long x1), .second] [(.ref ar), (.long x1)])) _
  refine XS.iloadN X0.here hx rfl (hb hby d4_23) rfl ?_
  show Steps p.tables e below (T0.setTop (mkF m 24 #[.val (.ref ar), .val (.int (0 : Int32)), .val (.int (3 : Int32)), .val (.int (1 : Int32)), .val (.int (1 : Int32)), .val (.long x1), .second] [(.int (1 : Int32)), (.ref ar), (.long x1)])) _
  refine XS.iconst X0.here hx rfl (hb hby d4_24) ?_
  show Steps p.tables e below (T0.setTop (mkF m 25 #[.val (.ref ar), .val (.int (0 : Int32)), .val (.int (3 : Int32)), .val (.int (1 : Int32)), .val (.int (1 : Int32)), .val (.long x1), .second] [(.int (1 : Int32)), (.int (1 : Int32)), (.ref ar), (.long x1)])) _
  refine XS.isub X0.here hx rfl (hb hby d4_25) rfl ?_
  show Steps p.tables e below (T0.setTop (mkF m 26 #[.val (.ref ar), .val (.int (0 : Int32)), .val (.int (3 : Int32)), .val (.int (1 : Int32)), .val (.int (1 : Int32)), .val (.long x1), .second] [(.int ((1 : Int32) - (1 : Int32))), (.ref ar), (.long x1)])) _
  rw [show ((1 : Int32) - (1 : Int32)) = (0 : Int32) from by decide]
  show Steps p.tables e below (T0.setTop (mkF m 26 #[.val (.ref ar), .val (.int (0 : Int32)), .val (.int (3 : Int32)), .val (.int (1 : Int32)), .val (.int (1 : Int32)), .val (.long x1), .second] [(.int (0 : Int32)), (.ref ar), (.long x1)])) _
  refine X0.laload hx (j := (0 : Int32)) (v := (.long x0)) (by rw [e0]; exact Ar2.1) (State.isArrayOf_alike hZ.alike Ar2.2.1) Ar2.2.2 hin2 hat2 (g := (mkF m 26 #[.val (.ref ar), .val (.int (0 : Int32)), .val (.int (3 : Int32)), .val (.int (1 : Int32)), .val (.int (1 : Int32)), .val (.long x1), .second] [(.int (0 : Int32)), (.ref ar), (.long x1)])) rfl rfl (hb hby d4_26) _ ?_
  show Steps p.tables e below (T0.setTop (mkF m 27 #[.val (.ref ar), .val (.int (0 : Int32)), .val (.int (3 : Int32)), .val (.int (1 : Int32)), .val (.int (1 : Int32)), .val (.long x1), .second] [(.long x0), (.long x1)])) _
  refine XS.lcmp X0.here hx rfl (hb hby d4_27) rfl ?_
  show Steps p.tables e below (T0.setTop (mkF m 28 #[.val (.ref ar), .val (.int (0 : Int32)), .val (.int (3 : Int32)), .val (.int (1 : Int32)), .val (.int (1 : Int32)), .val (.long x1), .second] [(.int (lcmpW x1 x0))])) _
  refine XS.ifNo X0.here hx rfl (hb hby d4_28) rfl ((if0 _ _).trans (tlt hc28).2.1) ?_
  show Steps p.tables e below (T0.setTop (mkF m 31 #[.val (.ref ar), .val (.int (0 : Int32)), .val (.int (3 : Int32)), .val (.int (1 : Int32)), .val (.int (1 : Int32)), .val (.long x1), .second] [])) _
  refine XS.iinc X0.here hx rfl (hb hby d4_31) rfl (l' := #[.val (.ref ar), .val (.int (0 : Int32)), .val (.int (3 : Int32)), .val (.int ((1 : Int32) + (-1 : Int32))), .val (.int (1 : Int32)), .val (.long x1), .second]) rfl ?_
  show Steps p.tables e below (T0.setTop (mkF m 34 #[.val (.ref ar), .val (.int (0 : Int32)), .val (.int (3 : Int32)), .val (.int ((1 : Int32) + (-1 : Int32))), .val (.int (1 : Int32)), .val (.long x1), .second] [])) _
  rw [show ((1 : Int32) + (-1 : Int32)) = (0 : Int32) from by decide]
  show Steps p.tables e below (T0.setTop (mkF m 34 #[.val (.ref ar), .val (.int (0 : Int32)), .val (.int (3 : Int32)), .val (.int (0 : Int32)), .val (.int (1 : Int32)), .val (.long x1), .second] [])) _
  refine XS.iloadN X0.here hx rfl (hb hby d4_34) rfl ?_
  show Steps p.tables e below (T0.setTop (mkF m 35 #[.val (.ref ar), .val (.int (0 : Int32)), .val (.int (3 : Int32)), .val (.int (0 : Int32)), .val (.int (1 : Int32)), .val (.long x1), .second] [(.int (0 : Int32))])) _
  refine XS.iloadN X0.here hx rfl (hb hby d4_35) rfl ?_
  show Steps p.tables e below (T0.setTop (mkF m 36 #[.val (.ref ar), .val (.int (0 : Int32)), .val (.int (3 : Int32)), .val (.int (0 : Int32)), .val (.int (1 : Int32)), .val (.long x1), .second] [(.int (0 : Int32)), (.int (0 : Int32))])) _
  refine XS.icmpNo X0.here hx rfl (hb hby d4_36) rfl (flt (by decide : ¬ ((0 : Int32) < (0 : Int32)))).1 ?_
  show Steps p.tables e below (T0.setTop (mkF m 39 #[.val (.ref ar), .val (.int (0 : Int32)), .val (.int (3 : Int32)), .val (.int (0 : Int32)), .val (.int (1 : Int32)), .val (.long x1), .second] [])) _
  refine XS.lload X0.here hx rfl (hb hby d4_39) rfl ?_
  show Steps p.tables e below (T0.setTop (mkF m 41 #[.val (.ref ar), .val (.int (0 : Int32)), .val (.int (3 : Int32)), .val (.int (0 : Int32)), .val (.int (1 : Int32)), .val (.long x1), .second] [(.long x1)])) _
  refine XS.aloadN X0.here hx rfl (hb hby d4_41) rfl rfl ?_
  show Steps p.tables e below (T0.setTop (mkF m 42 #[.val (.ref ar), .val (.int (0 : Int32)), .val (.int (3 : Int32)), .val (.int (0 : Int32)), .val (.int (1 : Int32)), .val (.long x1), .second] [(.ref ar), (.long x1)])) _
  refine XS.iloadN X0.here hx rfl (hb hby d4_42) rfl ?_
  show Steps p.tables e below (T0.setTop (mkF m 43 #[.val (.ref ar), .val (.int (0 : Int32)), .val (.int (3 : Int32)), .val (.int (0 : Int32)), .val (.int (1 : Int32)), .val (.long x1), .second] [(.int (0 : Int32)), (.ref ar), (.long x1)])) _
  refine X0.laload hx (j := (0 : Int32)) (v := (.long x0)) (by rw [e0]; exact Ar3.1) (State.isArrayOf_alike hZ.alike Ar3.2.1) Ar3.2.2 hin3 hat3 (g := (mkF m 43 #[.val (.ref ar), .val (.int (0 : Int32)), .val (.int (3 : Int32)), .val (.int (0 : Int32)), .val (.int (1 : Int32)), .val (.long x1), .second] [(.int (0 : Int32)), (.ref ar), (.long x1)])) rfl rfl (hb hby d4_43) _ ?_
  show Steps p.tables e below (T0.setTop (mkF m 44 #[.val (.ref ar), .val (.int (0 : Int32)), .val (.int (3 : Int32)), .val (.int (0 : Int32)), .val (.int (1 : Int32)), .val (.long x1), .second] [(.long x0), (.long x1)])) _
  refine XS.lcmp X0.here hx rfl (hb hby d4_44) rfl ?_
  show Steps p.tables e below (T0.setTop (mkF m 45 #[.val (.ref ar), .val (.int (0 : Int32)), .val (.int (3 : Int32)), .val (.int (0 : Int32)), .val (.int (1 : Int32)), .val (.long x1), .second] [(.int (lcmpW x1 x0))])) _
  refine XS.ifNo X0.here hx rfl (hb hby d4_45) rfl ((if0 _ _).trans (tlt hc28).2.1) ?_
  show Steps p.tables e below (T0.setTop (mkF m 48 #[.val (.ref ar), .val (.int (0 : Int32)), .val (.int (3 : Int32)), .val (.int (0 : Int32)), .val (.int (1 : Int32)), .val (.long x1), .second] [])) _
  refine XS.aloadN X0.here hx rfl (hb hby d4_48) rfl rfl ?_
  show Steps p.tables e below (T0.setTop (mkF m 49 #[.val (.ref ar), .val (.int (0 : Int32)), .val (.int (3 : Int32)), .val (.int (0 : Int32)), .val (.int (1 : Int32)), .val (.long x1), .second] [(.ref ar)])) _
  refine XS.iloadN X0.here hx rfl (hb hby d4_49) rfl ?_
  show Steps p.tables e below (T0.setTop (mkF m 50 #[.val (.ref ar), .val (.int (0 : Int32)), .val (.int (3 : Int32)), .val (.int (0 : Int32)), .val (.int (1 : Int32)), .val (.long x1), .second] [(.int (0 : Int32)), (.ref ar)])) _
  refine XS.iconst X0.here hx rfl (hb hby d4_50) ?_
  show Steps p.tables e below (T0.setTop (mkF m 51 #[.val (.ref ar), .val (.int (0 : Int32)), .val (.int (3 : Int32)), .val (.int (0 : Int32)), .val (.int (1 : Int32)), .val (.long x1), .second] [(.int (1 : Int32)), (.int (0 : Int32)), (.ref ar)])) _
  refine XS.iadd X0.here hx rfl (hb hby d4_51) rfl ?_
  show Steps p.tables e below (T0.setTop (mkF m 52 #[.val (.ref ar), .val (.int (0 : Int32)), .val (.int (3 : Int32)), .val (.int (0 : Int32)), .val (.int (1 : Int32)), .val (.long x1), .second] [(.int ((0 : Int32) + (1 : Int32))), (.ref ar)])) _
  rw [show ((0 : Int32) + (1 : Int32)) = (1 : Int32) from by decide]
  show Steps p.tables e below (T0.setTop (mkF m 52 #[.val (.ref ar), .val (.int (0 : Int32)), .val (.int (3 : Int32)), .val (.int (0 : Int32)), .val (.int (1 : Int32)), .val (.long x1), .second] [(.int (1 : Int32)), (.ref ar)])) _
  refine XS.aloadN X0.here hx rfl (hb hby d4_52) rfl rfl ?_
  show Steps p.tables e below (T0.setTop (mkF m 53 #[.val (.ref ar), .val (.int (0 : Int32)), .val (.int (3 : Int32)), .val (.int (0 : Int32)), .val (.int (1 : Int32)), .val (.long x1), .second] [(.ref ar), (.int (1 : Int32)), (.ref ar)])) _
  refine XS.iloadN X0.here hx rfl (hb hby d4_53) rfl ?_
  show Steps p.tables e below (T0.setTop (mkF m 54 #[.val (.ref ar), .val (.int (0 : Int32)), .val (.int (3 : Int32)), .val (.int (0 : Int32)), .val (.int (1 : Int32)), .val (.long x1), .second] [(.int (0 : Int32)), (.ref ar), (.int (1 : Int32)), (.ref ar)])) _
  refine X0.laload hx (j := (0 : Int32)) (v := (.long x0)) (by rw [e0]; exact Ar4.1) (State.isArrayOf_alike hZ.alike Ar4.2.1) Ar4.2.2 hin4 hat4 (g := (mkF m 54 #[.val (.ref ar), .val (.int (0 : Int32)), .val (.int (3 : Int32)), .val (.int (0 : Int32)), .val (.int (1 : Int32)), .val (.long x1), .second] [(.int (0 : Int32)), (.ref ar), (.int (1 : Int32)), (.ref ar)])) rfl rfl (hb hby d4_54) _ ?_
  show Steps p.tables e below (T0.setTop (mkF m 55 #[.val (.ref ar), .val (.int (0 : Int32)), .val (.int (3 : Int32)), .val (.int (0 : Int32)), .val (.int (1 : Int32)), .val (.long x1), .second] [(.long x0), (.int (1 : Int32)), (.ref ar)])) _
  refine st5 _ ?_
  show Steps p.tables e below (T5.setTop (mkF m 56 #[.val (.ref ar), .val (.int (0 : Int32)), .val (.int (3 : Int32)), .val (.int (0 : Int32)), .val (.int (1 : Int32)), .val (.long x1), .second] [])) _
  refine XS.goto X5.here hx rfl (pc0 := 56) (pc' := 31) rfl (hb hby d4_56) (by decide) (by decide) ?_
  show Steps p.tables e below (T5.setTop (mkF m 31 #[.val (.ref ar), .val (.int (0 : Int32)), .val (.int (3 : Int32)), .val (.int (0 : Int32)), .val (.int (1 : Int32)), .val (.long x1), .second] [])) _
  refine XS.iinc X5.here hx rfl (hb hby d4_31) rfl (l' := #[.val (.ref ar), .val (.int (0 : Int32)), .val (.int (3 : Int32)), .val (.int ((0 : Int32) + (-1 : Int32))), .val (.int (1 : Int32)), .val (.long x1), .second]) rfl ?_
  show Steps p.tables e below (T5.setTop (mkF m 34 #[.val (.ref ar), .val (.int (0 : Int32)), .val (.int (3 : Int32)), .val (.int ((0 : Int32) + (-1 : Int32))), .val (.int (1 : Int32)), .val (.long x1), .second] [])) _
  rw [show ((0 : Int32) + (-1 : Int32)) = (-1 : Int32) from by decide]
  show Steps p.tables e below (T5.setTop (mkF m 34 #[.val (.ref ar), .val (.int (0 : Int32)), .val (.int (3 : Int32)), .val (.int (-1 : Int32)), .val (.int (1 : Int32)), .val (.long x1), .second] [])) _
  refine XS.iloadN X5.here hx rfl (hb hby d4_34) rfl ?_
  show Steps p.tables e below (T5.setTop (mkF m 35 #[.val (.ref ar), .val (.int (0 : Int32)), .val (.int (3 : Int32)), .val (.int (-1 : Int32)), .val (.int (1 : Int32)), .val (.long x1), .second] [(.int (-1 : Int32))])) _
  refine XS.iloadN X5.here hx rfl (hb hby d4_35) rfl ?_
  show Steps p.tables e below (T5.setTop (mkF m 36 #[.val (.ref ar), .val (.int (0 : Int32)), .val (.int (3 : Int32)), .val (.int (-1 : Int32)), .val (.int (1 : Int32)), .val (.long x1), .second] [(.int (0 : Int32)), (.int (-1 : Int32))])) _
  refine XS.icmpYes X5.here hx rfl (pc0 := 36) (pc' := 59) rfl (hb hby d4_36) rfl (tlt (by decide : (-1 : Int32) < (0 : Int32))).1 (by decide) (by decide) ?_
  show Steps p.tables e below (T5.setTop (mkF m 59 #[.val (.ref ar), .val (.int (0 : Int32)), .val (.int (3 : Int32)), .val (.int (-1 : Int32)), .val (.int (1 : Int32)), .val (.long x1), .second] [])) _
  refine XS.aloadN X5.here hx rfl (hb hby d4_59) rfl rfl ?_
  show Steps p.tables e below (T5.setTop (mkF m 60 #[.val (.ref ar), .val (.int (0 : Int32)), .val (.int (3 : Int32)), .val (.int (-1 : Int32)), .val (.int (1 : Int32)), .val (.long x1), .second] [(.ref ar)])) _
  refine XS.iloadN X5.here hx rfl (hb hby d4_60) rfl ?_
  show Steps p.tables e below (T5.setTop (mkF m 61 #[.val (.ref ar), .val (.int (0 : Int32)), .val (.int (3 : Int32)), .val (.int (-1 : Int32)), .val (.int (1 : Int32)), .val (.long x1), .second] [(.int (-1 : Int32)), (.ref ar)])) _
  refine XS.iconst X5.here hx rfl (hb hby d4_61) ?_
  show Steps p.tables e below (T5.setTop (mkF m 62 #[.val (.ref ar), .val (.int (0 : Int32)), .val (.int (3 : Int32)), .val (.int (-1 : Int32)), .val (.int (1 : Int32)), .val (.long x1), .second] [(.int (1 : Int32)), (.int (-1 : Int32)), (.ref ar)])) _
  refine XS.iadd X5.here hx rfl (hb hby d4_62) rfl ?_
  show Steps p.tables e below (T5.setTop (mkF m 63 #[.val (.ref ar), .val (.int (0 : Int32)), .val (.int (3 : Int32)), .val (.int (-1 : Int32)), .val (.int (1 : Int32)), .val (.long x1), .second] [(.int ((-1 : Int32) + (1 : Int32))), (.ref ar)])) _
  rw [show ((-1 : Int32) + (1 : Int32)) = (0 : Int32) from by decide]
  show Steps p.tables e below (T5.setTop (mkF m 63 #[.val (.ref ar), .val (.int (0 : Int32)), .val (.int (3 : Int32)), .val (.int (-1 : Int32)), .val (.int (1 : Int32)), .val (.long x1), .second] [(.int (0 : Int32)), (.ref ar)])) _
  refine XS.lload X5.here hx rfl (hb hby d4_63) rfl ?_
  show Steps p.tables e below (T5.setTop (mkF m 65 #[.val (.ref ar), .val (.int (0 : Int32)), .val (.int (3 : Int32)), .val (.int (-1 : Int32)), .val (.int (1 : Int32)), .val (.long x1), .second] [(.long x1), (.int (0 : Int32)), (.ref ar)])) _
  refine st6 _ ?_
  show Steps p.tables e below (T6.setTop (mkF m 66 #[.val (.ref ar), .val (.int (0 : Int32)), .val (.int (3 : Int32)), .val (.int (-1 : Int32)), .val (.int (1 : Int32)), .val (.long x1), .second] [])) _
  refine XS.goto X6.here hx rfl (pc0 := 66) (pc' := 3) rfl (hb hby d4_66) (by decide) (by decide) ?_
  exact kt
set_option maxRecDepth 65536 in
set_option maxHeartbeats 40000000 in
theorem tn3_2_0 {p : Program} {l : Launch} {e : Env} {R : Room} {s : State} {m : MethodId} {args : Array Value} {below : List Frame} {meth : Method} {c : Code} {T0 : State} {locs : List Loc} {cells slots : Nat} {Z : State} {a0 : Array Value} {h0 : Heap} {n0 : Nat} (ka : ClassId) (x0 : Int64) (x1 : Int64) (x2 : Int64) (ar : Addr) (j0 : Int32) (v0 : Int64)
    (X0 : Stand p l e R s m args below meth c T0 locs cells slots) (hx : p.tables.exec = Jvm.exec) (hZ : Z.Warmed39 s.vm) (hw : ∀ d ∈ tables_1, d.before a0 Z = true) (hby : c.code = jdk_2529_method_15_code) (hml : c.maxLocals = 7) (hown : s.vm.findClass "java/util/DualPivotQuicksort" = some m.cls) (e0 : T0.heap = h0) (N0 : Fr n0 locs) (Z0 : n0 ≤ h0.size) (V_ar : Arv Z h0 ar ka .long (3 : Int32) [(.long x0), (.long x1), (.long x2)] (.long (0 : Int64))) (hc28 : ¬ ((lcmpW x2 x1) < (0 : Int32))) :
    ∃ (T' : State) (h' : Heap) (locs' : List Loc), Stand p l e R s m args below meth c T' locs' cells slots ∧ T'.heap = h' ∧ Fr n0 locs' ∧ h' = h0 ∧ Arv Z h' ar ka .long (3 : Int32) [(.long x0), (.long x1), (.long x2)] (.long (0 : Int64)) ∧ ∀ target, Steps p.tables e below (T'.setTop (mkF m 3 #[.val (.ref ar), .val (.int (0 : Int32)), .val (.int (3 : Int32)), .val (.int (2 : Int32)), .val (.int (2 : Int32)), .val (.long x2), .second] [])) target → Steps p.tables e below (T0.setTop (mkF m 3 #[.val (.ref ar), .val (.int (0 : Int32)), .val (.int (3 : Int32)), .val (.int j0), .val (.int (1 : Int32)), .val (.long v0), .second] [])) target := by
  have Vc1 := V_ar
  obtain ⟨cl1, Ar1, q1, S1, M1, H1, G1⟩ := Vc1
  have hin1 : ¬ ((2 : Int32) < 0 ∨ cl1.slots.size ≤ ((2 : Int32)).toNatClampNeg) := inb_of S1 ⟨by decide, by decide⟩
  have hat1 : cl1.slots[((2 : Int32)).toNatClampNeg]? = some (.long x2) := Has.at H1 hin1 rfl
  have Vc2 := V_ar
  obtain ⟨cl2, Ar2, q2, S2, M2, H2, G2⟩ := Vc2
  have hin2 : ¬ ((1 : Int32) < 0 ∨ cl2.slots.size ≤ ((1 : Int32)).toNatClampNeg) := inb_of S2 ⟨by decide, by decide⟩
  have hat2 : cl2.slots[((1 : Int32)).toNatClampNeg]? = some (.long x1) := Has.at H2 hin2 rfl
  refine ⟨T0, h0, _, X0, e0, N0, rfl, V_ar, fun target kt => ?_⟩
  show Steps p.tables e below (T0.setTop (mkF m 3 #[.val (.ref ar), .val (.int (0 : Int32)), .val (.int (3 : Int32)), .val (.int j0), .val (.int (1 : Int32)), .val (.long v0), .second] [])) _
  refine XS.iinc X0.here hx rfl (hb hby d4_3) rfl (l' := #[.val (.ref ar), .val (.int (0 : Int32)), .val (.int (3 : Int32)), .val (.int j0), .val (.int ((1 : Int32) + (1 : Int32))), .val (.long v0), .second]) rfl ?_
  show Steps p.tables e below (T0.setTop (mkF m 6 #[.val (.ref ar), .val (.int (0 : Int32)), .val (.int (3 : Int32)), .val (.int j0), .val (.int ((1 : Int32) + (1 : Int32))), .val (.long v0), .second] [])) _
  rw [show ((1 : Int32) + (1 : Int32)) = (2 : Int32) from by decide]
  show Steps p.tables e below (T0.setTop (mkF m 6 #[.val (.ref ar), .val (.int (0 : Int32)), .val (.int (3 : Int32)), .val (.int j0), .val (.int (2 : Int32)), .val (.long v0), .second] [])) _
  refine XS.iload X0.here hx rfl (hb hby d4_6) rfl ?_
  show Steps p.tables e below (T0.setTop (mkF m 8 #[.val (.ref ar), .val (.int (0 : Int32)), .val (.int (3 : Int32)), .val (.int j0), .val (.int (2 : Int32)), .val (.long v0), .second] [(.int (2 : Int32))])) _
  refine XS.iloadN X0.here hx rfl (hb hby d4_8) rfl ?_
  show Steps p.tables e below (T0.setTop (mkF m 9 #[.val (.ref ar), .val (.int (0 : Int32)), .val (.int (3 : Int32)), .val (.int j0), .val (.int (2 : Int32)), .val (.long v0), .second] [(.int (3 : Int32)), (.int (2 : Int32))])) _
  refine XS.icmpNo X0.here hx rfl (hb hby d4_9) rfl (tlt (by decide : (2 : Int32) < (3 : Int32))).2.1 ?_
  show Steps p.tables e below (T0.setTop (mkF m 12 #[.val (.ref ar), .val (.int (0 : Int32)), .val (.int (3 : Int32)), .val (.int j0), .val (.int (2 : Int32)), .val (.long v0), .second] [])) _
  refine XS.aloadN X0.here hx rfl (hb hby d4_12) rfl rfl ?_
  show Steps p.tables e below (T0.setTop (mkF m 13 #[.val (.ref ar), .val (.int (0 : Int32)), .val (.int (3 : Int32)), .val (.int j0), .val (.int (2 : Int32)), .val (.long v0), .second] [(.ref ar)])) _
  refine XS.iload X0.here hx rfl (hb hby d4_13) rfl ?_
  show Steps p.tables e below (T0.setTop (mkF m 15 #[.val (.ref ar), .val (.int (0 : Int32)), .val (.int (3 : Int32)), .val (.int j0), .val (.int (2 : Int32)), .val (.long v0), .second] [(.int (2 : Int32)), (.ref ar)])) _
  refine XS.dup X0.here hx rfl (hb hby d4_15) rfl rfl ?_
  show Steps p.tables e below (T0.setTop (mkF m 16 #[.val (.ref ar), .val (.int (0 : Int32)), .val (.int (3 : Int32)), .val (.int j0), .val (.int (2 : Int32)), .val (.long v0), .second] [(.int (2 : Int32)), (.int (2 : Int32)), (.ref ar)])) _
  refine XS.istoreN X0.here hx rfl (hb hby d4_16) rfl (l' := #[.val (.ref ar), .val (.int (0 : Int32)), .val (.int (3 : Int32)), .val (.int (2 : Int32)), .val (.int (2 : Int32)), .val (.long v0), .second]) rfl ?_
  show Steps p.tables e below (T0.setTop (mkF m 17 #[.val (.ref ar), .val (.int (0 : Int32)), .val (.int (3 : Int32)), .val (.int (2 : Int32)), .val (.int (2 : Int32)), .val (.long v0), .second] [(.int (2 : Int32)), (.ref ar)])) _
  refine X0.laload hx (j := (2 : Int32)) (v := (.long x2)) (by rw [e0]; exact Ar1.1) (State.isArrayOf_alike hZ.alike Ar1.2.1) Ar1.2.2 hin1 hat1 (g := (mkF m 17 #[.val (.ref ar), .val (.int (0 : Int32)), .val (.int (3 : Int32)), .val (.int (2 : Int32)), .val (.int (2 : Int32)), .val (.long v0), .second] [(.int (2 : Int32)), (.ref ar)])) rfl rfl (hb hby d4_17) _ ?_
  show Steps p.tables e below (T0.setTop (mkF m 18 #[.val (.ref ar), .val (.int (0 : Int32)), .val (.int (3 : Int32)), .val (.int (2 : Int32)), .val (.int (2 : Int32)), .val (.long v0), .second] [(.long x2)])) _
  refine XS.lstore X0.here hx rfl (hb hby d4_18) rfl (l' := #[.val (.ref ar), .val (.int (0 : Int32)), .val (.int (3 : Int32)), .val (.int (2 : Int32)), .val (.int (2 : Int32)), .val (.long x2), .second]) rfl ?_
  show Steps p.tables e below (T0.setTop (mkF m 20 #[.val (.ref ar), .val (.int (0 : Int32)), .val (.int (3 : Int32)), .val (.int (2 : Int32)), .val (.int (2 : Int32)), .val (.long x2), .second] [])) _
  refine XS.lload X0.here hx rfl (hb hby d4_20) rfl ?_
  show Steps p.tables e below (T0.setTop (mkF m 22 #[.val (.ref ar), .val (.int (0 : Int32)), .val (.int (3 : Int32)), .val (.int (2 : Int32)), .val (.int (2 : Int32)), .val (.long x2), .second] [(.long x2)])) _
  refine XS.aloadN X0.here hx rfl (hb hby d4_22) rfl rfl ?_
  show Steps p.tables e below (T0.setTop (mkF m 23 #[.val (.ref ar), .val (.int (0 : Int32)), .val (.int (3 : Int32)), .val (.int (2 : Int32)), .val (.int (2 : Int32)), .val (.long x2), .second] [(.ref ar), (.long x2)])) _
  refine XS.iloadN X0.here hx rfl (hb hby d4_23) rfl ?_
  show Steps p.tables e below (T0.setTop (mkF m 24 #[.val (.ref ar), .val (.int (0 : Int32)), .val (.int (3 : Int32)), .val (.int (2 : Int32)), .val (.int (2 : Int32)), .val (.long x2), .second] [(.int (2 : Int32)), (.ref ar), (.long x2)])) _
  refine XS.iconst X0.here hx rfl (hb hby d4_24) ?_
  show Steps p.tables e below (T0.setTop (mkF m 25 #[.val (.ref ar), .val (.int (0 : Int32)), .val (.int (3 : Int32)), .val (.int (2 : Int32)), .val (.int (2 : Int32)), .val (.long x2), .second] [(.int (1 : Int32)), (.int (2 : Int32)), (.ref ar), (.long x2)])) _
  refine XS.isub X0.here hx rfl (hb hby d4_25) rfl ?_
  show Steps p.tables e below (T0.setTop (mkF m 26 #[.val (.ref ar), .val (.int (0 : Int32)), .val (.int (3 : Int32)), .val (.int (2 : Int32)), .val (.int (2 : Int32)), .val (.long x2), .second] [(.int ((2 : Int32) - (1 : Int32))), (.ref ar), (.long x2)])) _
  rw [show ((2 : Int32) - (1 : Int32)) = (1 : Int32) from by decide]
  show Steps p.tables e below (T0.setTop (mkF m 26 #[.val (.ref ar), .val (.int (0 : Int32)), .val (.int (3 : Int32)), .val (.int (2 : Int32)), .val (.int (2 : Int32)), .val (.long x2), .second] [(.int (1 : Int32)), (.ref ar), (.long x2)])) _
  refine X0.laload hx (j := (1 : Int32)) (v := (.long x1)) (by rw [e0]; exact Ar2.1) (State.isArrayOf_alike hZ.alike Ar2.2.1) Ar2.2.2 hin2 hat2 (g := (mkF m 26 #[.val (.ref ar), .val (.int (0 : Int32)), .val (.int (3 : Int32)), .val (.int (2 : Int32)), .val (.int (2 : Int32)), .val (.long x2), .second] [(.int (1 : Int32)), (.ref ar), (.long x2)])) rfl rfl (hb hby d4_26) _ ?_
  show Steps p.tables e below (T0.setTop (mkF m 27 #[.val (.ref ar), .val (.int (0 : Int32)), .val (.int (3 : Int32)), .val (.int (2 : Int32)), .val (.int (2 : Int32)), .val (.long x2), .second] [(.long x1), (.long x2)])) _
  refine XS.lcmp X0.here hx rfl (hb hby d4_27) rfl ?_
  show Steps p.tables e below (T0.setTop (mkF m 28 #[.val (.ref ar), .val (.int (0 : Int32)), .val (.int (3 : Int32)), .val (.int (2 : Int32)), .val (.int (2 : Int32)), .val (.long x2), .second] [(.int (lcmpW x2 x1))])) _
  refine XS.ifYes X0.here hx rfl (pc0 := 28) (pc' := 66) rfl (hb hby d4_28) rfl ((if0 _ _).trans (flt hc28).2.1) (by decide) (by decide) ?_
  show Steps p.tables e below (T0.setTop (mkF m 66 #[.val (.ref ar), .val (.int (0 : Int32)), .val (.int (3 : Int32)), .val (.int (2 : Int32)), .val (.int (2 : Int32)), .val (.long x2), .second] [])) _
  refine XS.goto X0.here hx rfl (pc0 := 66) (pc' := 3) rfl (hb hby d4_66) (by decide) (by decide) ?_
  exact kt
set_option maxRecDepth 65536 in
set_option maxHeartbeats 40000000 in
theorem tn3_2_1 {p : Program} {l : Launch} {e : Env} {R : Room} {s : State} {m : MethodId} {args : Array Value} {below : List Frame} {meth : Method} {c : Code} {T0 : State} {locs : List Loc} {cells slots : Nat} {Z : State} {a0 : Array Value} {h0 : Heap} {n0 : Nat} (ka : ClassId) (x0 : Int64) (x1 : Int64) (x2 : Int64) (ar : Addr) (j0 : Int32) (v0 : Int64)
    (X0 : Stand p l e R s m args below meth c T0 locs cells slots) (hx : p.tables.exec = Jvm.exec) (hZ : Z.Warmed39 s.vm) (hw : ∀ d ∈ tables_1, d.before a0 Z = true) (hby : c.code = jdk_2529_method_15_code) (hml : c.maxLocals = 7) (hown : s.vm.findClass "java/util/DualPivotQuicksort" = some m.cls) (e0 : T0.heap = h0) (N0 : Fr n0 locs) (Z0 : n0 ≤ h0.size) (V_ar : Arv Z h0 ar ka .long (3 : Int32) [(.long x0), (.long x1), (.long x2)] (.long (0 : Int64))) (hc28 : (lcmpW x2 x1) < (0 : Int32)) (g_ar : n0 ≤ ar) (hc45_2 : ¬ ((lcmpW x2 x0) < (0 : Int32))) :
    ∃ (T' : State) (h' : Heap) (locs' : List Loc), Stand p l e R s m args below meth c T' locs' cells slots ∧ T'.heap = h' ∧ Fr n0 locs' ∧ Keep h0 h' [ar] ∧ Arv Z h' ar ka .long (3 : Int32) [(.long x0), (.long x2), (.long x1)] (.long (0 : Int64)) ∧ ∀ target, Steps p.tables e below (T'.setTop (mkF m 3 #[.val (.ref ar), .val (.int (0 : Int32)), .val (.int (3 : Int32)), .val (.int (0 : Int32)), .val (.int (2 : Int32)), .val (.long x2), .second] [])) target → Steps p.tables e below (T0.setTop (mkF m 3 #[.val (.ref ar), .val (.int (0 : Int32)), .val (.int (3 : Int32)), .val (.int j0), .val (.int (1 : Int32)), .val (.long v0), .second] [])) target := by
  have Vc1 := V_ar
  obtain ⟨cl1, Ar1, q1, S1, M1, H1, G1⟩ := Vc1
  have hin1 : ¬ ((2 : Int32) < 0 ∨ cl1.slots.size ≤ ((2 : Int32)).toNatClampNeg) := inb_of S1 ⟨by decide, by decide⟩
  have hat1 : cl1.slots[((2 : Int32)).toNatClampNeg]? = some (.long x2) := Has.at H1 hin1 rfl
  have Vc2 := V_ar
  obtain ⟨cl2, Ar2, q2, S2, M2, H2, G2⟩ := Vc2
  have hin2 : ¬ ((1 : Int32) < 0 ∨ cl2.slots.size ≤ ((1 : Int32)).toNatClampNeg) := inb_of S2 ⟨by decide, by decide⟩
  have hat2 : cl2.slots[((1 : Int32)).toNatClampNeg]? = some (.long x1) := Has.at H2 hin2 rfl
  have Vc3 := V_ar
  obtain ⟨cl3, Ar3, q3, S3, M3, H3, G3⟩ := Vc3
  have hin3 : ¬ ((1 : Int32) < 0 ∨ cl3.slots.size ≤ ((1 : Int32)).toNatClampNeg) := inb_of S3 ⟨by decide, by decide⟩
  have hat3 : cl3.slots[((1 : Int32)).toNatClampNeg]? = some (.long x1) := Has.at H3 hin3 rfl
  have Vc4 := V_ar
  obtain ⟨cl4, Ar4, q4, S4, M4, H4, G4⟩ := Vc4
  have hin4 : ¬ ((1 : Int32) < 0 ∨ cl4.slots.size ≤ ((1 : Int32)).toNatClampNeg) := inb_of S4 ⟨by decide, by decide⟩
  have hat4 : cl4.slots[((1 : Int32)).toNatClampNeg]? = some (.long x1) := Has.at H4 hin4 rfl
  have Vc5 := V_ar
  obtain ⟨cl5, Ar5, q5, S5, M5, H5, G5⟩ := Vc5
  have hin5 : ¬ ((2 : Int32) < 0 ∨ cl5.slots.size ≤ ((2 : Int32)).toNatClampNeg) := inb_of S5 ⟨by decide, by decide⟩
  obtain ⟨T5, h5, X5, e5, W5, st5⟩ := stJ X0 hx hZ e0 Ar5 (j := (2 : Int32)) hin5 (g := (mkF m 55 #[.val (.ref ar), .val (.int (0 : Int32)), .val (.int (3 : Int32)), .val (.int (1 : Int32)), .val (.int (2 : Int32)), .val (.long x2), .second] [(.long x1), (.int (2 : Int32)), (.ref ar)])) rfl rfl (hb hby d4_55)
  have V5 : Arv Z h5 ar ka .long (3 : Int32) [(.long x0), (.long x1), (.long x1)] (.long (0 : Int64)) := Arv.set Ar5 q5 S5 M5 H5 G5 rfl W5 2 rfl (Nat.le_of_ble_eq_true rfl)
  have N5 := Fr.snoc X5 N0 g_ar
  have Vc6 := V5
  obtain ⟨cl6, Ar6, q6, S6, M6, H6, G6⟩ := Vc6
  have hin6 : ¬ ((0 : Int32) < 0 ∨ cl6.slots.size ≤ ((0 : Int32)).toNatClampNeg) := inb_of S6 ⟨by decide, by decide⟩
  have hat6 : cl6.slots[((0 : Int32)).toNatClampNeg]? = some (.long x0) := Has.at H6 hin6 rfl
  have Vc7 := V5
  obtain ⟨cl7, Ar7, q7, S7, M7, H7, G7⟩ := Vc7
  have hin7 : ¬ ((1 : Int32) < 0 ∨ cl7.slots.size ≤ ((1 : Int32)).toNatClampNeg) := inb_of S7 ⟨by decide, by decide⟩
  obtain ⟨T7, h7, X7, e7, W7, st7⟩ := stJ X5 hx hZ e5 Ar7 (j := (1 : Int32)) hin7 (g := (mkF m 65 #[.val (.ref ar), .val (.int (0 : Int32)), .val (.int (3 : Int32)), .val (.int (0 : Int32)), .val (.int (2 : Int32)), .val (.long x2), .second] [(.long x2), (.int (1 : Int32)), (.ref ar)])) rfl rfl (hb hby d4_65)
  have V7 : Arv Z h7 ar ka .long (3 : Int32) [(.long x0), (.long x2), (.long x1)] (.long (0 : Int64)) := Arv.set Ar7 q7 S7 M7 H7 G7 rfl W7 1 rfl (Nat.le_of_ble_eq_true rfl)
  have N7 := Fr.snoc X7 N5 g_ar
  refine ⟨T7, h7, _, X7, e7, N7, (((Keep.refl h0 [ar]).wr W5 (Or.inl (List.mem_of_getElem? (i := 0) rfl))).wr W7 (Or.inl (List.mem_of_getElem? (i := 0) rfl))), V7, fun target kt => ?_⟩
  show Steps p.tables e below (T0.setTop (mkF m 3 #[.val (.ref ar), .val (.int (0 : Int32)), .val (.int (3 : Int32)), .val (.int j0), .val (.int (1 : Int32)), .val (.long v0), .second] [])) _
  refine XS.iinc X0.here hx rfl (hb hby d4_3) rfl (l' := #[.val (.ref ar), .val (.int (0 : Int32)), .val (.int (3 : Int32)), .val (.int j0), .val (.int ((1 : Int32) + (1 : Int32))), .val (.long v0), .second]) rfl ?_
  show Steps p.tables e below (T0.setTop (mkF m 6 #[.val (.ref ar), .val (.int (0 : Int32)), .val (.int (3 : Int32)), .val (.int j0), .val (.int ((1 : Int32) + (1 : Int32))), .val (.long v0), .second] [])) _
  rw [show ((1 : Int32) + (1 : Int32)) = (2 : Int32) from by decide]
  show Steps p.tables e below (T0.setTop (mkF m 6 #[.val (.ref ar), .val (.int (0 : Int32)), .val (.int (3 : Int32)), .val (.int j0), .val (.int (2 : Int32)), .val (.long v0), .second] [])) _
  refine XS.iload X0.here hx rfl (hb hby d4_6) rfl ?_
  show Steps p.tables e below (T0.setTop (mkF m 8 #[.val (.ref ar), .val (.int (0 : Int32)), .val (.int (3 : Int32)), .val (.int j0), .val (.int (2 : Int32)), .val (.long v0), .second] [(.int (2 : Int32))])) _
  refine XS.iloadN X0.here hx rfl (hb hby d4_8) rfl ?_
  show Steps p.tables e below (T0.setTop (mkF m 9 #[.val (.ref ar), .val (.int (0 : Int32)), .val (.int (3 : Int32)), .val (.int j0), .val (.int (2 : Int32)), .val (.long v0), .second] [(.int (3 : Int32)), (.int (2 : Int32))])) _
  refine XS.icmpNo X0.here hx rfl (hb hby d4_9) rfl (tlt (by decide : (2 : Int32) < (3 : Int32))).2.1 ?_
  show Steps p.tables e below (T0.setTop (mkF m 12 #[.val (.ref ar), .val (.int (0 : Int32)), .val (.int (3 : Int32)), .val (.int j0), .val (.int (2 : Int32)), .val (.long v0), .second] [])) _
  refine XS.aloadN X0.here hx rfl (hb hby d4_12) rfl rfl ?_
  show Steps p.tables e below (T0.setTop (mkF m 13 #[.val (.ref ar), .val (.int (0 : Int32)), .val (.int (3 : Int32)), .val (.int j0), .val (.int (2 : Int32)), .val (.long v0), .second] [(.ref ar)])) _
  refine XS.iload X0.here hx rfl (hb hby d4_13) rfl ?_
  show Steps p.tables e below (T0.setTop (mkF m 15 #[.val (.ref ar), .val (.int (0 : Int32)), .val (.int (3 : Int32)), .val (.int j0), .val (.int (2 : Int32)), .val (.long v0), .second] [(.int (2 : Int32)), (.ref ar)])) _
  refine XS.dup X0.here hx rfl (hb hby d4_15) rfl rfl ?_
  show Steps p.tables e below (T0.setTop (mkF m 16 #[.val (.ref ar), .val (.int (0 : Int32)), .val (.int (3 : Int32)), .val (.int j0), .val (.int (2 : Int32)), .val (.long v0), .second] [(.int (2 : Int32)), (.int (2 : Int32)), (.ref ar)])) _
  refine XS.istoreN X0.here hx rfl (hb hby d4_16) rfl (l' := #[.val (.ref ar), .val (.int (0 : Int32)), .val (.int (3 : Int32)), .val (.int (2 : Int32)), .val (.int (2 : Int32)), .val (.long v0), .second]) rfl ?_
  show Steps p.tables e below (T0.setTop (mkF m 17 #[.val (.ref ar), .val (.int (0 : Int32)), .val (.int (3 : Int32)), .val (.int (2 : Int32)), .val (.int (2 : Int32)), .val (.long v0), .second] [(.int (2 : Int32)), (.ref ar)])) _
  refine X0.laload hx (j := (2 : Int32)) (v := (.long x2)) (by rw [e0]; exact Ar1.1) (State.isArrayOf_alike hZ.alike Ar1.2.1) Ar1.2.2 hin1 hat1 (g := (mkF m 17 #[.val (.ref ar), .val (.int (0 : Int32)), .val (.int (3 : Int32)), .val (.int (2 : Int32)), .val (.int (2 : Int32)), .val (.long v0), .second] [(.int (2 : Int32)), (.ref ar)])) rfl rfl (hb hby d4_17) _ ?_
  show Steps p.tables e below (T0.setTop (mkF m 18 #[.val (.ref ar), .val (.int (0 : Int32)), .val (.int (3 : Int32)), .val (.int (2 : Int32)), .val (.int (2 : Int32)), .val (.long v0), .second] [(.long x2)])) _
  refine XS.lstore X0.here hx rfl (hb hby d4_18) rfl (l' := #[.val (.ref ar), .val (.int (0 : Int32)), .val (.int (3 : Int32)), .val (.int (2 : Int32)), .val (.int (2 : Int32)), .val (.long x2), .second]) rfl ?_
  show Steps p.tables e below (T0.setTop (mkF m 20 #[.val (.ref ar), .val (.int (0 : Int32)), .val (.int (3 : Int32)), .val (.int (2 : Int32)), .val (.int (2 : Int32)), .val (.long x2), .second] [])) _
  refine XS.lload X0.here hx rfl (hb hby d4_20) rfl ?_
  show Steps p.tables e below (T0.setTop (mkF m 22 #[.val (.ref ar), .val (.int (0 : Int32)), .val (.int (3 : Int32)), .val (.int (2 : Int32)), .val (.int (2 : Int32)), .val (.long x2), .second] [(.long x2)])) _
  refine XS.aloadN X0.here hx rfl (hb hby d4_22) rfl rfl ?_
  show Steps p.tables e below (T0.setTop (mkF m 23 #[.val (.ref ar), .val (.int (0 : Int32)), .val (.int (3 : Int32)), .val (.int (2 : Int32)), .val (.int (2 : Int32)), .val (.long x2), .second] [(.ref ar), (.long x2)])) _
  refine XS.iloadN X0.here hx rfl (hb hby d4_23) rfl ?_
  show Steps p.tables e below (T0.setTop (mkF m 24 #[.val (.ref ar), .val (.int (0 : Int32)), .val (.int (3 : Int32)), .val (.int (2 : Int32)), .val (.int (2 : Int32)), .val (.long x2), .second] [(.int (2 : Int32)), (.ref ar), (.long x2)])) _
  refine XS.iconst X0.here hx rfl (hb hby d4_24) ?_
  show Steps p.tables e below (T0.setTop (mkF m 25 #[.val (.ref ar), .val (.int (0 : Int32)), .val (.int (3 : Int32)), .val (.int (2 : Int32)), .val (.int (2 : Int32)), .val (.long x2), .second] [(.int (1 : Int32)), (.int (2 : Int32)), (.ref ar), (.long x2)])) _
  refine XS.isub X0.here hx rfl (hb hby d4_25) rfl ?_
  show Steps p.tables e below (T0.setTop (mkF m 26 #[.val (.ref ar), .val (.int (0 : Int32)), .val (.int (3 : Int32)), .val (.int (2 : Int32)), .val (.int (2 : Int32)), .val (.long x2), .second] [(.int ((2 : Int32) - (1 : Int32))), (.ref ar), (.long x2)])) _
  rw [show ((2 : Int32) - (1 : Int32)) = (1 : Int32) from by decide]
  show Steps p.tables e below (T0.setTop (mkF m 26 #[.val (.ref ar), .val (.int (0 : Int32)), .val (.int (3 : Int32)), .val (.int (2 : Int32)), .val (.int (2 : Int32)), .val (.long x2), .second] [(.int (1 : Int32)), (.ref ar), (.long x2)])) _
  refine X0.laload hx (j := (1 : Int32)) (v := (.long x1)) (by rw [e0]; exact Ar2.1) (State.isArrayOf_alike hZ.alike Ar2.2.1) Ar2.2.2 hin2 hat2 (g := (mkF m 26 #[.val (.ref ar), .val (.int (0 : Int32)), .val (.int (3 : Int32)), .val (.int (2 : Int32)), .val (.int (2 : Int32)), .val (.long x2), .second] [(.int (1 : Int32)), (.ref ar), (.long x2)])) rfl rfl (hb hby d4_26) _ ?_
  show Steps p.tables e below (T0.setTop (mkF m 27 #[.val (.ref ar), .val (.int (0 : Int32)), .val (.int (3 : Int32)), .val (.int (2 : Int32)), .val (.int (2 : Int32)), .val (.long x2), .second] [(.long x1), (.long x2)])) _
  refine XS.lcmp X0.here hx rfl (hb hby d4_27) rfl ?_
  show Steps p.tables e below (T0.setTop (mkF m 28 #[.val (.ref ar), .val (.int (0 : Int32)), .val (.int (3 : Int32)), .val (.int (2 : Int32)), .val (.int (2 : Int32)), .val (.long x2), .second] [(.int (lcmpW x2 x1))])) _
  refine XS.ifNo X0.here hx rfl (hb hby d4_28) rfl ((if0 _ _).trans (tlt hc28).2.1) ?_
  show Steps p.tables e below (T0.setTop (mkF m 31 #[.val (.ref ar), .val (.int (0 : Int32)), .val (.int (3 : Int32)), .val (.int (2 : Int32)), .val (.int (2 : Int32)), .val (.long x2), .second] [])) _
  refine XS.iinc X0.here hx rfl (hb hby d4_31) rfl (l' := #[.val (.ref ar), .val (.int (0 : Int32)), .val (.int (3 : Int32)), .val (.int ((2 : Int32) + (-1 : Int32))), .val (.int (2 : Int32)), .val (.long x2), .second]) rfl ?_
  show Steps p.tables e below (T0.setTop (mkF m 34 #[.val (.ref ar), .val (.int (0 : Int32)), .val (.int (3 : Int32)), .val (.int ((2 : Int32) + (-1 : Int32))), .val (.int (2 : Int32)), .val (.long x2), .second] [])) _
  rw [show ((2 : Int32) + (-1 : Int32)) = (1 : Int32) from by decide]
  show Steps p.tables e below (T0.setTop (mkF m 34 #[.val (.ref ar), .val (.int (0 : Int32)), .val (.int (3 : Int32)), .val (.int (1 : Int32)), .val (.int (2 : Int32)), .val (.long x2), .second] [])) _
  refine XS.iloadN X0.here hx rfl (hb hby d4_34) rfl ?_
  show Steps p.tables e below (T0.setTop (mkF m 35 #[.val (.ref ar), .val (.int (0 : Int32)), .val (.int (3 : Int32)), .val (.int (1 : Int32)), .val (.int (2 : Int32)), .val (.long x2), .second] [(.int (1 : Int32))])) _
  refine XS.iloadN X0.here hx rfl (hb hby d4_35) rfl ?_
  show Steps p.tables e below (T0.setTop (mkF m 36 #[.val (.ref ar), .val (.int (0 : Int32)), .val (.int (3 : Int32)), .val (.int (1 : Int32)), .val (.int (2 : Int32)), .val (.long x2), .second] [(.int (0 : Int32)), (.int (1 : Int32))])) _
  refine XS.icmpNo X0.here hx rfl (hb hby d4_36) rfl (flt (by decide : ¬ ((1 : Int32) < (0 : Int32)))).1 ?_
  show Steps p.tables e below (T0.setTop (mkF m 39 #[.val (.ref ar), .val (.int (0 : Int32)), .val (.int (3 : Int32)), .val (.int (1 : Int32)), .val (.int (2 : Int32)), .val (.long x2), .second] [])) _
  refine XS.lload X0.here hx rfl (hb hby d4_39) rfl ?_
  show Steps p.tables e below (T0.setTop (mkF m 41 #[.val (.ref ar), .val (.int (0 : Int32)), .val (.int (3 : Int32)), .val (.int (1 : Int32)), .val (.int (2 : Int32)), .val (.long x2), .second] [(.long x2)])) _
  refine XS.aloadN X0.here hx rfl (hb hby d4_41) rfl rfl ?_
  show Steps p.tables e below (T0.setTop (mkF m 42 #[.val (.ref ar), .val (.int (0 : Int32)), .val (.int (3 : Int32)), .val (.int (1 : Int32)), .val (.int (2 : Int32)), .val (.long x2), .second] [(.ref ar), (.long x2)])) _
  refine XS.iloadN X0.here hx rfl (hb hby d4_42) rfl ?_
  show Steps p.tables e below (T0.setTop (mkF m 43 #[.val (.ref ar), .val (.int (0 : Int32)), .val (.int (3 : Int32)), .val (.int (1 : Int32)), .val (.int (2 : Int32)), .val (.long x2), .second] [(.int (1 : Int32)), (.ref ar), (.long x2)])) _
  refine X0.laload hx (j := (1 : Int32)) (v := (.long x1)) (by rw [e0]; exact Ar3.1) (State.isArrayOf_alike hZ.alike Ar3.2.1) Ar3.2.2 hin3 hat3 (g := (mkF m 43 #[.val (.ref ar), .val (.int (0 : Int32)), .val (.int (3 : Int32)), .val (.int (1 : Int32)), .val (.int (2 : Int32)), .val (.long x2), .second] [(.int (1 : Int32)), (.ref ar), (.long x2)])) rfl rfl (hb hby d4_43) _ ?_
  show Steps p.tables e below (T0.setTop (mkF m 44 #[.val (.ref ar), .val (.int (0 : Int32)), .val (.int (3 : Int32)), .val (.int (1 : Int32)), .val (.int (2 : Int32)), .val (.long x2), .second] [(.long x1), (.long x2)])) _
  refine XS.lcmp X0.here hx rfl (hb hby d4_44) rfl ?_
  show Steps p.tables e below (T0.setTop (mkF m 45 #[.val (.ref ar), .val (.int (0 : Int32)), .val (.int (3 : Int32)), .val (.int (1 : Int32)), .val (.int (2 : Int32)), .val (.long x2), .second] [(.int (lcmpW x2 x1))])) _
  refine XS.ifNo X0.here hx rfl (hb hby d4_45) rfl ((if0 _ _).trans (tlt hc28).2.1) ?_
  show Steps p.tables e below (T0.setTop (mkF m 48 #[.val (.ref ar), .val (.int (0 : Int32)), .val (.int (3 : Int32)), .val (.int (1 : Int32)), .val (.int (2 : Int32)), .val (.long x2), .second] [])) _
  refine XS.aloadN X0.here hx rfl (hb hby d4_48) rfl rfl ?_
  show Steps p.tables e below (T0.setTop (mkF m 49 #[.val (.ref ar), .val (.int (0 : Int32)), .val (.int (3 : Int32)), .val (.int (1 : Int32)), .val (.int (2 : Int32)), .val (.long x2), .second] [(.ref ar)])) _
  refine XS.iloadN X0.here hx rfl (hb hby d4_49) rfl ?_
  show Steps p.tables e below (T0.setTop (mkF m 50 #[.val (.ref ar), .val (.int (0 : Int32)), .val (.int (3 : Int32)), .val (.int (1 : Int32)), .val (.int (2 : Int32)), .val (.long x2), .second] [(.int (1 : Int32)), (.ref ar)])) _
  refine XS.iconst X0.here hx rfl (hb hby d4_50) ?_
  show Steps p.tables e below (T0.setTop (mkF m 51 #[.val (.ref ar), .val (.int (0 : Int32)), .val (.int (3 : Int32)), .val (.int (1 : Int32)), .val (.int (2 : Int32)), .val (.long x2), .second] [(.int (1 : Int32)), (.int (1 : Int32)), (.ref ar)])) _
  refine XS.iadd X0.here hx rfl (hb hby d4_51) rfl ?_
  show Steps p.tables e below (T0.setTop (mkF m 52 #[.val (.ref ar), .val (.int (0 : Int32)), .val (.int (3 : Int32)), .val (.int (1 : Int32)), .val (.int (2 : Int32)), .val (.long x2), .second] [(.int ((1 : Int32) + (1 : Int32))), (.ref ar)])) _
  rw [show ((1 : Int32) + (1 : Int32)) = (2 : Int32) from by decide]
  show Steps p.tables e below (T0.setTop (mkF m 52 #[.val (.ref ar), .val (.int (0 : Int32)), .val (.int (3 : Int32)), .val (.int (1 : Int32)), .val (.int (2 : Int32)), .val (.long x2), .second] [(.int (2 : Int32)), (.ref ar)])) _
  refine XS.aloadN X0.here hx rfl (hb hby d4_52) rfl rfl ?_
  show Steps p.tables e below (T0.setTop (mkF m 53 #[.val (.ref ar), .val (.int (0 : Int32)), .val (.int (3 : Int32)), .val (.int (1 : Int32)), .val (.int (2 : Int32)), .val (.long x2), .second] [(.ref ar), (.int (2 : Int32)), (.ref ar)])) _
  refine XS.iloadN X0.here hx rfl (hb hby d4_53) rfl ?_
  show Steps p.tables e below (T0.setTop (mkF m 54 #[.val (.ref ar), .val (.int (0 : Int32)), .val (.int (3 : Int32)), .val (.int (1 : Int32)), .val (.int (2 : Int32)), .val (.long x2), .second] [(.int (1 : Int32)), (.ref ar), (.int (2 : Int32)), (.ref ar)])) _
  refine X0.laload hx (j := (1 : Int32)) (v := (.long x1)) (by rw [e0]; exact Ar4.1) (State.isArrayOf_alike hZ.alike Ar4.2.1) Ar4.2.2 hin4 hat4 (g := (mkF m 54 #[.val (.ref ar), .val (.int (0 : Int32)), .val (.int (3 : Int32)), .val (.int (1 : Int32)), .val (.int (2 : Int32)), .val (.long x2), .second] [(.int (1 : Int32)), (.ref ar), (.int (2 : Int32)), (.ref ar)])) rfl rfl (hb hby d4_54) _ ?_
  show Steps p.tables e below (T0.setTop (mkF m 55 #[.val (.ref ar), .val (.int (0 : Int32)), .val (.int (3 : Int32)), .val (.int (1 : Int32)), .val (.int (2 : Int32)), .val (.long x2), .second] [(.long x1), (.int (2 : Int32)), (.ref ar)])) _
  refine st5 _ ?_
  show Steps p.tables e below (T5.setTop (mkF m 56 #[.val (.ref ar), .val (.int (0 : Int32)), .val (.int (3 : Int32)), .val (.int (1 : Int32)), .val (.int (2 : Int32)), .val (.long x2), .second] [])) _
  refine XS.goto X5.here hx rfl (pc0 := 56) (pc' := 31) rfl (hb hby d4_56) (by decide) (by decide) ?_
  show Steps p.tables e below (T5.setTop (mkF m 31 #[.val (.ref ar), .val (.int (0 : Int32)), .val (.int (3 : Int32)), .val (.int (1 : Int32)), .val (.int (2 : Int32)), .val (.long x2), .second] [])) _
  refine XS.iinc X5.here hx rfl (hb hby d4_31) rfl (l' := #[.val (.ref ar), .val (.int (0 : Int32)), .val (.int (3 : Int32)), .val (.int ((1 : Int32) + (-1 : Int32))), .val (.int (2 : Int32)), .val (.long x2), .second]) rfl ?_
  show Steps p.tables e below (T5.setTop (mkF m 34 #[.val (.ref ar), .val (.int (0 : Int32)), .val (.int (3 : Int32)), .val (.int ((1 : Int32) + (-1 : Int32))), .val (.int (2 : Int32)), .val (.long x2), .second] [])) _
  rw [show ((1 : Int32) + (-1 : Int32)) = (0 : Int32) from by decide]
  show Steps p.tables e below (T5.setTop (mkF m 34 #[.val (.ref ar), .val (.int (0 : Int32)), .val (.int (3 : Int32)), .val (.int (0 : Int32)), .val (.int (2 : Int32)), .val (.long x2), .second] [])) _
  refine XS.iloadN X5.here hx rfl (hb hby d4_34) rfl ?_
  show Steps p.tables e below (T5.setTop (mkF m 35 #[.val (.ref ar), .val (.int (0 : Int32)), .val (.int (3 : Int32)), .val (.int (0 : Int32)), .val (.int (2 : Int32)), .val (.long x2), .second] [(.int (0 : Int32))])) _
  refine XS.iloadN X5.here hx rfl (hb hby d4_35) rfl ?_
  show Steps p.tables e below (T5.setTop (mkF m 36 #[.val (.ref ar), .val (.int (0 : Int32)), .val (.int (3 : Int32)), .val (.int (0 : Int32)), .val (.int (2 : Int32)), .val (.long x2), .second] [(.int (0 : Int32)), (.int (0 : Int32))])) _
  refine XS.icmpNo X5.here hx rfl (hb hby d4_36) rfl (flt (by decide : ¬ ((0 : Int32) < (0 : Int32)))).1 ?_
  show Steps p.tables e below (T5.setTop (mkF m 39 #[.val (.ref ar), .val (.int (0 : Int32)), .val (.int (3 : Int32)), .val (.int (0 : Int32)), .val (.int (2 : Int32)), .val (.long x2), .second] [])) _
  refine XS.lload X5.here hx rfl (hb hby d4_39) rfl ?_
  show Steps p.tables e below (T5.setTop (mkF m 41 #[.val (.ref ar), .val (.int (0 : Int32)), .val (.int (3 : Int32)), .val (.int (0 : Int32)), .val (.int (2 : Int32)), .val (.long x2), .second] [(.long x2)])) _
  refine XS.aloadN X5.here hx rfl (hb hby d4_41) rfl rfl ?_
  show Steps p.tables e below (T5.setTop (mkF m 42 #[.val (.ref ar), .val (.int (0 : Int32)), .val (.int (3 : Int32)), .val (.int (0 : Int32)), .val (.int (2 : Int32)), .val (.long x2), .second] [(.ref ar), (.long x2)])) _
  refine XS.iloadN X5.here hx rfl (hb hby d4_42) rfl ?_
  show Steps p.tables e below (T5.setTop (mkF m 43 #[.val (.ref ar), .val (.int (0 : Int32)), .val (.int (3 : Int32)), .val (.int (0 : Int32)), .val (.int (2 : Int32)), .val (.long x2), .second] [(.int (0 : Int32)), (.ref ar), (.long x2)])) _
  refine X5.laload hx (j := (0 : Int32)) (v := (.long x0)) (by rw [e5]; exact Ar6.1) (State.isArrayOf_alike hZ.alike Ar6.2.1) Ar6.2.2 hin6 hat6 (g := (mkF m 43 #[.val (.ref ar), .val (.int (0 : Int32)), .val (.int (3 : Int32)), .val (.int (0 : Int32)), .val (.int (2 : Int32)), .val (.long x2), .second] [(.int (0 : Int32)), (.ref ar), (.long x2)])) rfl rfl (hb hby d4_43) _ ?_
  show Steps p.tables e below (T5.setTop (mkF m 44 #[.val (.ref ar), .val (.int (0 : Int32)), .val (.int (3 : Int32)), .val (.int (0 : Int32)), .val (.int (2 : Int32)), .val (.long x2), .second] [(.long x0), (.long x2)])) _
  refine XS.lcmp X5.here hx rfl (hb hby d4_44) rfl ?_
  show Steps p.tables e below (T5.setTop (mkF m 45 #[.val (.ref ar), .val (.int (0 : Int32)), .val (.int (3 : Int32)), .val (.int (0 : Int32)), .val (.int (2 : Int32)), .val (.long x2), .second] [(.int (lcmpW x2 x0))])) _
  refine XS.ifYes X5.here hx rfl (pc0 := 45) (pc' := 59) rfl (hb hby d4_45) rfl ((if0 _ _).trans (flt hc45_2).2.1) (by decide) (by decide) ?_
  show Steps p.tables e below (T5.setTop (mkF m 59 #[.val (.ref ar), .val (.int (0 : Int32)), .val (.int (3 : Int32)), .val (.int (0 : Int32)), .val (.int (2 : Int32)), .val (.long x2), .second] [])) _
  refine XS.aloadN X5.here hx rfl (hb hby d4_59) rfl rfl ?_
  show Steps p.tables e below (T5.setTop (mkF m 60 #[.val (.ref ar), .val (.int (0 : Int32)), .val (.int (3 : Int32)), .val (.int (0 : Int32)), .val (.int (2 : Int32)), .val (.long x2), .second] [(.ref ar)])) _
  refine XS.iloadN X5.here hx rfl (hb hby d4_60) rfl ?_
  show Steps p.tables e below (T5.setTop (mkF m 61 #[.val (.ref ar), .val (.int (0 : Int32)), .val (.int (3 : Int32)), .val (.int (0 : Int32)), .val (.int (2 : Int32)), .val (.long x2), .second] [(.int (0 : Int32)), (.ref ar)])) _
  refine XS.iconst X5.here hx rfl (hb hby d4_61) ?_
  show Steps p.tables e below (T5.setTop (mkF m 62 #[.val (.ref ar), .val (.int (0 : Int32)), .val (.int (3 : Int32)), .val (.int (0 : Int32)), .val (.int (2 : Int32)), .val (.long x2), .second] [(.int (1 : Int32)), (.int (0 : Int32)), (.ref ar)])) _
  refine XS.iadd X5.here hx rfl (hb hby d4_62) rfl ?_
  show Steps p.tables e below (T5.setTop (mkF m 63 #[.val (.ref ar), .val (.int (0 : Int32)), .val (.int (3 : Int32)), .val (.int (0 : Int32)), .val (.int (2 : Int32)), .val (.long x2), .second] [(.int ((0 : Int32) + (1 : Int32))), (.ref ar)])) _
  rw [show ((0 : Int32) + (1 : Int32)) = (1 : Int32) from by decide]
  show Steps p.tables e below (T5.setTop (mkF m 63 #[.val (.ref ar), .val (.int (0 : Int32)), .val (.int (3 : Int32)), .val (.int (0 : Int32)), .val (.int (2 : Int32)), .val (.long x2), .second] [(.int (1 : Int32)), (.ref ar)])) _
  refine XS.lload X5.here hx rfl (hb hby d4_63) rfl ?_
  show Steps p.tables e below (T5.setTop (mkF m 65 #[.val (.ref ar), .val (.int (0 : Int32)), .val (.int (3 : Int32)), .val (.int (0 : Int32)), .val (.int (2 : Int32)), .val (.long x2), .second] [(.long x2), (.int (1 : Int32)), (.ref ar)])) _
  refine st7 _ ?_
  show Steps p.tables e below (T7.setTop (mkF m 66 #[.val (.ref ar), .val (.int (0 : Int32)), .val (.int (3 : Int32)), .val (.int (0 : Int32)), .val (.int (2 : Int32)), .val (.long x2), .second] [])) _
  refine XS.goto X7.here hx rfl (pc0 := 66) (pc' := 3) rfl (hb hby d4_66) (by decide) (by decide) ?_
  exact kt
set_option maxRecDepth 65536 in
set_option maxHeartbeats 40000000 in
theorem tn3_2_2 {p : Program} {l : Launch} {e : Env} {R : Room} {s : State} {m : MethodId} {args : Array Value} {below : List Frame} {meth : Method} {c : Code} {T0 : State} {locs : List Loc} {cells slots : Nat} {Z : State} {a0 : Array Value} {h0 : Heap} {n0 : Nat} (ka : ClassId) (x0 : Int64) (x1 : Int64) (x2 : Int64) (ar : Addr) (j0 : Int32) (v0 : Int64)
    (X0 : Stand p l e R s m args below meth c T0 locs cells slots) (hx : p.tables.exec = Jvm.exec) (hZ : Z.Warmed39 s.vm) (hw : ∀ d ∈ tables_1, d.before a0 Z = true) (hby : c.code = jdk_2529_method_15_code) (hml : c.maxLocals = 7) (hown : s.vm.findClass "java/util/DualPivotQuicksort" = some m.cls) (e0 : T0.heap = h0) (N0 : Fr n0 locs) (Z0 : n0 ≤ h0.size) (V_ar : Arv Z h0 ar ka .long (3 : Int32) [(.long x0), (.long x1), (.long x2)] (.long (0 : Int64))) (hc28 : (lcmpW x2 x1) < (0 : Int32)) (g_ar : n0 ≤ ar) (hc45_2 : (lcmpW x2 x0) < (0 : Int32)) :
    ∃ (T' : State) (h' : Heap) (locs' : List Loc), Stand p l e R s m args below meth c T' locs' cells slots ∧ T'.heap = h' ∧ Fr n0 locs' ∧ Keep h0 h' [ar] ∧ Arv Z h' ar ka .long (3 : Int32) [(.long x2), (.long x0), (.long x1)] (.long (0 : Int64)) ∧ ∀ target, Steps p.tables e below (T'.setTop (mkF m 3 #[.val (.ref ar), .val (.int (0 : Int32)), .val (.int (3 : Int32)), .val (.int (-1 : Int32)), .val (.int (2 : Int32)), .val (.long x2), .second] [])) target → Steps p.tables e below (T0.setTop (mkF m 3 #[.val (.ref ar), .val (.int (0 : Int32)), .val (.int (3 : Int32)), .val (.int j0), .val (.int (1 : Int32)), .val (.long v0), .second] [])) target := by
  have Vc1 := V_ar
  obtain ⟨cl1, Ar1, q1, S1, M1, H1, G1⟩ := Vc1
  have hin1 : ¬ ((2 : Int32) < 0 ∨ cl1.slots.size ≤ ((2 : Int32)).toNatClampNeg) := inb_of S1 ⟨by decide, by decide⟩
  have hat1 : cl1.slots[((2 : Int32)).toNatClampNeg]? = some (.long x2) := Has.at H1 hin1 rfl
  have Vc2 := V_ar
  obtain ⟨cl2, Ar2, q2, S2, M2, H2, G2⟩ := Vc2
  have hin2 : ¬ ((1 : Int32) < 0 ∨ cl2.slots.size ≤ ((1 : Int32)).toNatClampNeg) := inb_of S2 ⟨by decide, by decide⟩
  have hat2 : cl2.slots[((1 : Int32)).toNatClampNeg]? = some (.long x1) := Has.at H2 hin2 rfl
  have Vc3 := V_ar
  obtain ⟨cl3, Ar3, q3, S3, M3, H3, G3⟩ := Vc3
  have hin3 : ¬ ((1 : Int32) < 0 ∨ cl3.slots.size ≤ ((1 : Int32)).toNatClampNeg) := inb_of S3 ⟨by decide, by decide⟩
  have hat3 : cl3.slots[((1 : Int32)).toNatClampNeg]? = some (.long x1) := Has.at H3 hin3 rfl
  have Vc4 := V_ar
  obtain ⟨cl4, Ar4, q4, S4, M4, H4, G4⟩ := Vc4
  have hin4 : ¬ ((1 : Int32) < 0 ∨ cl4.slots.size ≤ ((1 : Int32)).toNatClampNeg) := inb_of S4 ⟨by decide, by decide⟩
  have hat4 : cl4.slots[((1 : Int32)).toNatClampNeg]? = some (.long x1) := Has.at H4 hin4 rfl
  have Vc5 := V_ar
  obtain ⟨cl5, Ar5, q5, S5, M5, H5, G5⟩ := Vc5
  have hin5 : ¬ ((2 : Int32) < 0 ∨ cl5.slots.size ≤ ((2 : Int32)).toNatClampNeg) := inb_of S5 ⟨by decide, by decide⟩
  obtain ⟨T5, h5, X5, e5, W5, st5⟩ := stJ X0 hx hZ e0 Ar5 (j := (2 : Int32)) hin5 (g := (mkF m 55 #[.val (.ref ar), .val (.int (0 : Int32)), .val (.int (3 : Int32)), .val (.int (1 : Int32)), .val (.int (2 : Int32)), .val (.long x2), .second] [(.long x1), (.int (2 : Int32)), (.ref ar)])) rfl rfl (hb hby d4_55)
  have V5 : Arv Z h5 ar ka .long (3 : Int32) [(.long x0), (.long x1), (.long x1)] (.long (0 : Int64)) := Arv.set Ar5 q5 S5 M5 H5 G5 rfl W5 2 rfl (Nat.le_of_ble_eq_true rfl)
  have N5 := Fr.snoc X5 N0 g_ar
  have Vc6 := V5
  obtain ⟨cl6, Ar6, q6, S6, M6, H6, G6⟩ := Vc6
  have hin6 : ¬ ((0 : Int32) < 0 ∨ cl6.slots.size ≤ ((0 : Int32)).toNatClampNeg) := inb_of S6 ⟨by decide, by decide⟩
  have hat6 : cl6.slots[((0 : Int32)).toNatClampNeg]? = some (.long x0) := Has.at H6 hin6 rfl
  have Vc7 := V5
  obtain ⟨cl7, Ar7, q7, S7, M7, H7, G7⟩ := Vc7
  have hin7 : ¬ ((0 : Int32) < 0 ∨ cl7.slots.size ≤ ((0 : Int32)).toNatClampNeg) := inb_of S7 ⟨by decide, by decide⟩
  have hat7 : cl7.slots[((0 : Int32)).toNatClampNeg]? = some (.long x0) := Has.at H7 hin7 rfl
  have Vc8 := V5
  obtain ⟨cl8, Ar8, q8, S8, M8, H8, G8⟩ := Vc8
  have hin8 : ¬ ((1 : Int32) < 0 ∨ cl8.slots.size ≤ ((1 : Int32)).toNatClampNeg) := inb_of S8 ⟨by decide, by decide⟩
  obtain ⟨T8, h8, X8, e8, W8, st8⟩ := stJ X5 hx hZ e5 Ar8 (j := (1 : Int32)) hin8 (g := (mkF m 55 #[.val (.ref ar), .val (.int (0 : Int32)), .val (.int (3 : Int32)), .val (.int (0 : Int32)), .val (.int (2 : Int32)), .val (.long x2), .second] [(.long x0), (.int (1 : Int32)), (.ref ar)])) rfl rfl (hb hby d4_55)
  have V8 : Arv Z h8 ar ka .long (3 : Int32) [(.long x0), (.long x0), (.long x1)] (.long (0 : Int64)) := Arv.set Ar8 q8 S8 M8 H8 G8 rfl W8 1 rfl (Nat.le_of_ble_eq_true rfl)
  have N8 := Fr.snoc X8 N5 g_ar
  have Vc9 := V8
  obtain ⟨cl9, Ar9, q9, S9, M9, H9, G9⟩ := Vc9
  have hin9 : ¬ ((0 : Int32) < 0 ∨ cl9.slots.size ≤ ((0 : Int32)).toNatClampNeg) := inb_of S9 ⟨by decide, by decide⟩
  obtain ⟨T9, h9, X9, e9, W9, st9⟩ := stJ X8 hx hZ e8 Ar9 (j := (0 : Int32)) hin9 (g := (mkF m 65 #[.val (.ref ar), .val (.int (0 : Int32)), .val (.int (3 : Int32)), .val (.int (-1 : Int32)), .val (.int (2 : Int32)), .val (.long x2), .second] [(.long x2), (.int (0 : Int32)), (.ref ar)])) rfl rfl (hb hby d4_65)
  have V9 : Arv Z h9 ar ka .long (3 : Int32) [(.long x2), (.long x0), (.long x1)] (.long (0 : Int64)) := Arv.set Ar9 q9 S9 M9 H9 G9 rfl W9 0 rfl (Nat.le_of_ble_eq_true rfl)
  have N9 := Fr.snoc X9 N8 g_ar
  refine ⟨T9, h9, _, X9, e9, N9, ((((Keep.refl h0 [ar]).wr W5 (Or.inl (List.mem_of_getElem? (i := 0) rfl))).wr W8 (Or.inl (List.mem_of_getElem? (i := 0) rfl))).wr W9 (Or.inl (List.mem_of_getElem? (i := 0) rfl))), V9, fun target kt => ?_⟩
  show Steps p.tables e below (T0.setTop (mkF m 3 #[.val (.ref ar), .val (.int (0 : Int32)), .val (.int (3 : Int32)), .val (.int j0), .val (.int (1 : Int32)), .val (.long v0), .second] [])) _
  refine XS.iinc X0.here hx rfl (hb hby d4_3) rfl (l' := #[.val (.ref ar), .val (.int (0 : Int32)), .val (.int (3 : Int32)), .val (.int j0), .val (.int ((1 : Int32) + (1 : Int32))), .val (.long v0), .second]) rfl ?_
  show Steps p.tables e below (T0.setTop (mkF m 6 #[.val (.ref ar), .val (.int (0 : Int32)), .val (.int (3 : Int32)), .val (.int j0), .val (.int ((1 : Int32) + (1 : Int32))), .val (.long v0), .second] [])) _
  rw [show ((1 : Int32) + (1 : Int32)) = (2 : Int32) from by decide]
  show Steps p.tables e below (T0.setTop (mkF m 6 #[.val (.ref ar), .val (.int (0 : Int32)), .val (.int (3 : Int32)), .val (.int j0), .val (.int (2 : Int32)), .val (.long v0), .second] [])) _
  refine XS.iload X0.here hx rfl (hb hby d4_6) rfl ?_
  show Steps p.tables e below (T0.setTop (mkF m 8 #[.val (.ref ar), .val (.int (0 : Int32)), .val (.int (3 : Int32)), .val (.int j0), .val (.int (2 : Int32)), .val (.long v0), .second] [(.int (2 : Int32))])) _
  refine XS.iloadN X0.here hx rfl (hb hby d4_8) rfl ?_
  show Steps p.tables e below (T0.setTop (mkF m 9 #[.val (.ref ar), .val (.int (0 : Int32)), .val (.int (3 : Int32)), .val (.int j0), .val (.int (2 : Int32)), .val (.long v0), .second] [(.int (3 : Int32)), (.int (2 : Int32))])) _
  refine XS.icmpNo X0.here hx rfl (hb hby d4_9) rfl (tlt (by decide : (2 : Int32) < (3 : Int32))).2.1 ?_
  show Steps p.tables e below (T0.setTop (mkF m 12 #[.val (.ref ar), .val (.int (0 : Int32)), .val (.int (3 : Int32)), .val (.int j0), .val (.int (2 : Int32)), .val (.long v0), .second] [])) _
  refine XS.aloadN X0.here hx rfl (hb hby d4_12) rfl rfl ?_
  show Steps p.tables e below (T0.setTop (mkF m 13 #[.val (.ref ar), .val (.int (0 : Int32)), .val (.int (3 : Int32)), .val (.int j0), .val (.int (2 : Int32)), .val (.long v0), .second] [(.ref ar)])) _
  refine XS.iload X0.here hx rfl (hb hby d4_13) rfl ?_
  show Steps p.tables e below (T0.setTop (mkF m 15 #[.val (.ref ar), .val (.int (0 : Int32)), .val (.int (3 : Int32)), .val (.int j0), .val (.int (2 : Int32)), .val (.long v0), .second] [(.int (2 : Int32)), (.ref ar)])) _
  refine XS.dup X0.here hx rfl (hb hby d4_15) rfl rfl ?_
  show Steps p.tables e below (T0.setTop (mkF m 16 #[.val (.ref ar), .val (.int (0 : Int32)), .val (.int (3 : Int32)), .val (.int j0), .val (.int (2 : Int32)), .val (.long v0), .second] [(.int (2 : Int32)), (.int (2 : Int32)), (.ref ar)])) _
  refine XS.istoreN X0.here hx rfl (hb hby d4_16) rfl (l' := #[.val (.ref ar), .val (.int (0 : Int32)), .val (.int (3 : Int32)), .val (.int (2 : Int32)), .val (.int (2 : Int32)), .val (.long v0), .second]) rfl ?_
  show Steps p.tables e below (T0.setTop (mkF m 17 #[.val (.ref ar), .val (.int (0 : Int32)), .val (.int (3 : Int32)), .val (.int (2 : Int32)), .val (.int (2 : Int32)), .val (.long v0), .second] [(.int (2 : Int32)), (.ref ar)])) _
  refine X0.laload hx (j := (2 : Int32)) (v := (.long x2)) (by rw [e0]; exact Ar1.1) (State.isArrayOf_alike hZ.alike Ar1.2.1) Ar1.2.2 hin1 hat1 (g := (mkF m 17 #[.val (.ref ar), .val (.int (0 : Int32)), .val (.int (3 : Int32)), .val (.int (2 : Int32)), .val (.int (2 : Int32)), .val (.long v0), .second] [(.int (2 : Int32)), (.ref ar)])) rfl rfl (hb hby d4_17) _ ?_
  show Steps p.tables e below (T0.setTop (mkF m 18 #[.val (.ref ar), .val (.int (0 : Int32)), .val (.int (3 : Int32)), .val (.int (2 : Int32)), .val (.int (2 : Int32)), .val (.long v0), .second] [(.long x2)])) _
  refine XS.lstore X0.here hx rfl (hb hby d4_18) rfl (l' := #[.val (.ref ar), .val (.int (0 : Int32)), .val (.int (3 : Int32)), .val (.int (2 : Int32)), .val (.int (2 : Int32)), .val (.long x2), .second]) rfl ?_
  show Steps p.tables e below (T0.setTop (mkF m 20 #[.val (.ref ar), .val (.int (0 : Int32)), .val (.int (3 : Int32)), .val (.int (2 : Int32)), .val (.int (2 : Int32)), .val (.long x2), .second] [])) _
  refine XS.lload X0.here hx rfl (hb hby d4_20) rfl ?_
  show Steps p.tables e below (T0.setTop (mkF m 22 #[.val (.ref ar), .val (.int (0 : Int32)), .val (.int (3 : Int32)), .val (.int (2 : Int32)), .val (.int (2 : Int32)), .val (.long x2), .second] [(.long x2)])) _
  refine XS.aloadN X0.here hx rfl (hb hby d4_22) rfl rfl ?_
  show Steps p.tables e below (T0.setTop (mkF m 23 #[.val (.ref ar), .val (.int (0 : Int32)), .val (.int (3 : Int32)), .val (.int (2 : Int32)), .val (.int (2 : Int32)), .val (.long x2), .second] [(.ref ar), (.long x2)])) _
  refine XS.iloadN X0.here hx rfl (hb hby d4_23) rfl ?_
  show Steps p.tables e below (T0.setTop (mkF m 24 #[.val (.ref ar), .val (.int (0 : Int32)), .val (.int (3 : Int32)), .val (.int (2 : Int32)), .val (.int (2 : Int32)), .val (.long x2), .second] [(.int (2 : Int32)), (.ref ar), (.long x2)])) _
  refine XS.iconst X0.here hx rfl (hb hby d4_24) ?_
  show Steps p.tables e below (T0.setTop (mkF m 25 #[.val (.ref ar), .val (.int (0 : Int32)), .val (.int (3 : Int32)), .val (.int (2 : Int32)), .val (.int (2 : Int32)), .val (.long x2), .second] [(.int (1 : Int32)), (.int (2 : Int32)), (.ref ar), (.long x2)])) _
  refine XS.isub X0.here hx rfl (hb hby d4_25) rfl ?_
  show Steps p.tables e below (T0.setTop (mkF m 26 #[.val (.ref ar), .val (.int (0 : Int32)), .val (.int (3 : Int32)), .val (.int (2 : Int32)), .val (.int (2 : Int32)), .val (.long x2), .second] [(.int ((2 : Int32) - (1 : Int32))), (.ref ar), (.long x2)])) _
  rw [show ((2 : Int32) - (1 : Int32)) = (1 : Int32) from by decide]
  show Steps p.tables e below (T0.setTop (mkF m 26 #[.val (.ref ar), .val (.int (0 : Int32)), .val (.int (3 : Int32)), .val (.int (2 : Int32)), .val (.int (2 : Int32)), .val (.long x2), .second] [(.int (1 : Int32)), (.ref ar), (.long x2)])) _
  refine X0.laload hx (j := (1 : Int32)) (v := (.long x1)) (by rw [e0]; exact Ar2.1) (State.isArrayOf_alike hZ.alike Ar2.2.1) Ar2.2.2 hin2 hat2 (g := (mkF m 26 #[.val (.ref ar), .val (.int (0 : Int32)), .val (.int (3 : Int32)), .val (.int (2 : Int32)), .val (.int (2 : Int32)), .val (.long x2), .second] [(.int (1 : Int32)), (.ref ar), (.long x2)])) rfl rfl (hb hby d4_26) _ ?_
  show Steps p.tables e below (T0.setTop (mkF m 27 #[.val (.ref ar), .val (.int (0 : Int32)), .val (.int (3 : Int32)), .val (.int (2 : Int32)), .val (.int (2 : Int32)), .val (.long x2), .second] [(.long x1), (.long x2)])) _
  refine XS.lcmp X0.here hx rfl (hb hby d4_27) rfl ?_
  show Steps p.tables e below (T0.setTop (mkF m 28 #[.val (.ref ar), .val (.int (0 : Int32)), .val (.int (3 : Int32)), .val (.int (2 : Int32)), .val (.int (2 : Int32)), .val (.long x2), .second] [(.int (lcmpW x2 x1))])) _
  refine XS.ifNo X0.here hx rfl (hb hby d4_28) rfl ((if0 _ _).trans (tlt hc28).2.1) ?_
  show Steps p.tables e below (T0.setTop (mkF m 31 #[.val (.ref ar), .val (.int (0 : Int32)), .val (.int (3 : Int32)), .val (.int (2 : Int32)), .val (.int (2 : Int32)), .val (.long x2), .second] [])) _
  refine XS.iinc X0.here hx rfl (hb hby d4_31) rfl (l' := #[.val (.ref ar), .val (.int (0 : Int32)), .val (.int (3 : Int32)), .val (.int ((2 : Int32) + (-1 : Int32))), .val (.int (2 : Int32)), .val (.long x2), .second]) rfl ?_
  show Steps p.tables e below (T0.setTop (mkF m 34 #[.val (.ref ar), .val (.int (0 : Int32)), .val (.int (3 : Int32)), .val (.int ((2 : Int32) + (-1 : Int32))), .val (.int (2 : Int32)), .val (.long x2), .second] [])) _
  rw [show ((2 : Int32) + (-1 : Int32)) = (1 : Int32) from by decide]
  show Steps p.tables e below (T0.setTop (mkF m 34 #[.val (.ref ar), .val (.int (0 : Int32)), .val (.int (3 : Int32)), .val (.int (1 : Int32)), .val (.int (2 : Int32)), .val (.long x2), .second] [])) _
  refine XS.iloadN X0.here hx rfl (hb hby d4_34) rfl ?_
  show Steps p.tables e below (T0.setTop (mkF m 35 #[.val (.ref ar), .val (.int (0 : Int32)), .val (.int (3 : Int32)), .val (.int (1 : Int32)), .val (.int (2 : Int32)), .val (.long x2), .second] [(.int (1 : Int32))])) _
  refine XS.iloadN X0.here hx rfl (hb hby d4_35) rfl ?_
  show Steps p.tables e below (T0.setTop (mkF m 36 #[.val (.ref ar), .val (.int (0 : Int32)), .val (.int (3 : Int32)), .val (.int (1 : Int32)), .val (.int (2 : Int32)), .val (.long x2), .second] [(.int (0 : Int32)), (.int (1 : Int32))])) _
  refine XS.icmpNo X0.here hx rfl (hb hby d4_36) rfl (flt (by decide : ¬ ((1 : Int32) < (0 : Int32)))).1 ?_
  show Steps p.tables e below (T0.setTop (mkF m 39 #[.val (.ref ar), .val (.int (0 : Int32)), .val (.int (3 : Int32)), .val (.int (1 : Int32)), .val (.int (2 : Int32)), .val (.long x2), .second] [])) _
  refine XS.lload X0.here hx rfl (hb hby d4_39) rfl ?_
  show Steps p.tables e below (T0.setTop (mkF m 41 #[.val (.ref ar), .val (.int (0 : Int32)), .val (.int (3 : Int32)), .val (.int (1 : Int32)), .val (.int (2 : Int32)), .val (.long x2), .second] [(.long x2)])) _
  refine XS.aloadN X0.here hx rfl (hb hby d4_41) rfl rfl ?_
  show Steps p.tables e below (T0.setTop (mkF m 42 #[.val (.ref ar), .val (.int (0 : Int32)), .val (.int (3 : Int32)), .val (.int (1 : Int32)), .val (.int (2 : Int32)), .val (.long x2), .second] [(.ref ar), (.long x2)])) _
  refine XS.iloadN X0.here hx rfl (hb hby d4_42) rfl ?_
  show Steps p.tables e below (T0.setTop (mkF m 43 #[.val (.ref ar), .val (.int (0 : Int32)), .val (.int (3 : Int32)), .val (.int (1 : Int32)), .val (.int (2 : Int32)), .val (.long x2), .second] [(.int (1 : Int32)), (.ref ar), (.long x2)])) _
  refine X0.laload hx (j := (1 : Int32)) (v := (.long x1)) (by rw [e0]; exact Ar3.1) (State.isArrayOf_alike hZ.alike Ar3.2.1) Ar3.2.2 hin3 hat3 (g := (mkF m 43 #[.val (.ref ar), .val (.int (0 : Int32)), .val (.int (3 : Int32)), .val (.int (1 : Int32)), .val (.int (2 : Int32)), .val (.long x2), .second] [(.int (1 : Int32)), (.ref ar), (.long x2)])) rfl rfl (hb hby d4_43) _ ?_
  show Steps p.tables e below (T0.setTop (mkF m 44 #[.val (.ref ar), .val (.int (0 : Int32)), .val (.int (3 : Int32)), .val (.int (1 : Int32)), .val (.int (2 : Int32)), .val (.long x2), .second] [(.long x1), (.long x2)])) _
  refine XS.lcmp X0.here hx rfl (hb hby d4_44) rfl ?_
  show Steps p.tables e below (T0.setTop (mkF m 45 #[.val (.ref ar), .val (.int (0 : Int32)), .val (.int (3 : Int32)), .val (.int (1 : Int32)), .val (.int (2 : Int32)), .val (.long x2), .second] [(.int (lcmpW x2 x1))])) _
  refine XS.ifNo X0.here hx rfl (hb hby d4_45) rfl ((if0 _ _).trans (tlt hc28).2.1) ?_
  show Steps p.tables e below (T0.setTop (mkF m 48 #[.val (.ref ar), .val (.int (0 : Int32)), .val (.int (3 : Int32)), .val (.int (1 : Int32)), .val (.int (2 : Int32)), .val (.long x2), .second] [])) _
  refine XS.aloadN X0.here hx rfl (hb hby d4_48) rfl rfl ?_
  show Steps p.tables e below (T0.setTop (mkF m 49 #[.val (.ref ar), .val (.int (0 : Int32)), .val (.int (3 : Int32)), .val (.int (1 : Int32)), .val (.int (2 : Int32)), .val (.long x2), .second] [(.ref ar)])) _
  refine XS.iloadN X0.here hx rfl (hb hby d4_49) rfl ?_
  show Steps p.tables e below (T0.setTop (mkF m 50 #[.val (.ref ar), .val (.int (0 : Int32)), .val (.int (3 : Int32)), .val (.int (1 : Int32)), .val (.int (2 : Int32)), .val (.long x2), .second] [(.int (1 : Int32)), (.ref ar)])) _
  refine XS.iconst X0.here hx rfl (hb hby d4_50) ?_
  show Steps p.tables e below (T0.setTop (mkF m 51 #[.val (.ref ar), .val (.int (0 : Int32)), .val (.int (3 : Int32)), .val (.int (1 : Int32)), .val (.int (2 : Int32)), .val (.long x2), .second] [(.int (1 : Int32)), (.int (1 : Int32)), (.ref ar)])) _
  refine XS.iadd X0.here hx rfl (hb hby d4_51) rfl ?_
  show Steps p.tables e below (T0.setTop (mkF m 52 #[.val (.ref ar), .val (.int (0 : Int32)), .val (.int (3 : Int32)), .val (.int (1 : Int32)), .val (.int (2 : Int32)), .val (.long x2), .second] [(.int ((1 : Int32) + (1 : Int32))), (.ref ar)])) _
  rw [show ((1 : Int32) + (1 : Int32)) = (2 : Int32) from by decide]
  show Steps p.tables e below (T0.setTop (mkF m 52 #[.val (.ref ar), .val (.int (0 : Int32)), .val (.int (3 : Int32)), .val (.int (1 : Int32)), .val (.int (2 : Int32)), .val (.long x2), .second] [(.int (2 : Int32)), (.ref ar)])) _
  refine XS.aloadN X0.here hx rfl (hb hby d4_52) rfl rfl ?_
  show Steps p.tables e below (T0.setTop (mkF m 53 #[.val (.ref ar), .val (.int (0 : Int32)), .val (.int (3 : Int32)), .val (.int (1 : Int32)), .val (.int (2 : Int32)), .val (.long x2), .second] [(.ref ar), (.int (2 : Int32)), (.ref ar)])) _
  refine XS.iloadN X0.here hx rfl (hb hby d4_53) rfl ?_
  show Steps p.tables e below (T0.setTop (mkF m 54 #[.val (.ref ar), .val (.int (0 : Int32)), .val (.int (3 : Int32)), .val (.int (1 : Int32)), .val (.int (2 : Int32)), .val (.long x2), .second] [(.int (1 : Int32)), (.ref ar), (.int (2 : Int32)), (.ref ar)])) _
  refine X0.laload hx (j := (1 : Int32)) (v := (.long x1)) (by rw [e0]; exact Ar4.1) (State.isArrayOf_alike hZ.alike Ar4.2.1) Ar4.2.2 hin4 hat4 (g := (mkF m 54 #[.val (.ref ar), .val (.int (0 : Int32)), .val (.int (3 : Int32)), .val (.int (1 : Int32)), .val (.int (2 : Int32)), .val (.long x2), .second] [(.int (1 : Int32)), (.ref ar), (.int (2 : Int32)), (.ref ar)])) rfl rfl (hb hby d4_54) _ ?_
  show Steps p.tables e below (T0.setTop (mkF m 55 #[.val (.ref ar), .val (.int (0 : Int32)), .val (.int (3 : Int32)), .val (.int (1 : Int32)), .val (.int (2 : Int32)), .val (.long x2), .second] [(.long x1), (.int (2 : Int32)), (.ref ar)])) _
  refine st5 _ ?_
  show Steps p.tables e below (T5.setTop (mkF m 56 #[.val (.ref ar), .val (.int (0 : Int32)), .val (.int (3 : Int32)), .val (.int (1 : Int32)), .val (.int (2 : Int32)), .val (.long x2), .second] [])) _
  refine XS.goto X5.here hx rfl (pc0 := 56) (pc' := 31) rfl (hb hby d4_56) (by decide) (by decide) ?_
  show Steps p.tables e below (T5.setTop (mkF m 31 #[.val (.ref ar), .val (.int (0 : Int32)), .val (.int (3 : Int32)), .val (.int (1 : Int32)), .val (.int (2 : Int32)), .val (.long x2), .second] [])) _
  refine XS.iinc X5.here hx rfl (hb hby d4_31) rfl (l' := #[.val (.ref ar), .val (.int (0 : Int32)), .val (.int (3 : Int32)), .val (.int ((1 : Int32) + (-1 : Int32))), .val (.int (2 : Int32)), .val (.long x2), .second]) rfl ?_
  show Steps p.tables e below (T5.setTop (mkF m 34 #[.val (.ref ar), .val (.int (0 : Int32)), .val (.int (3 : Int32)), .val (.int ((1 : Int32) + (-1 : Int32))), .val (.int (2 : Int32)), .val (.long x2), .second] [])) _
  rw [show ((1 : Int32) + (-1 : Int32)) = (0 : Int32) from by decide]
  show Steps p.tables e below (T5.setTop (mkF m 34 #[.val (.ref ar), .val (.int (0 : Int32)), .val (.int (3 : Int32)), .val (.int (0 : Int32)), .val (.int (2 : Int32)), .val (.long x2), .second] [])) _
  refine XS.iloadN X5.here hx rfl (hb hby d4_34) rfl ?_
  show Steps p.tables e below (T5.setTop (mkF m 35 #[.val (.ref ar), .val (.int (0 : Int32)), .val (.int (3 : Int32)), .val (.int (0 : Int32)), .val (.int (2 : Int32)), .val (.long x2), .second] [(.int (0 : Int32))])) _
  refine XS.iloadN X5.here hx rfl (hb hby d4_35) rfl ?_
  show Steps p.tables e below (T5.setTop (mkF m 36 #[.val (.ref ar), .val (.int (0 : Int32)), .val (.int (3 : Int32)), .val (.int (0 : Int32)), .val (.int (2 : Int32)), .val (.long x2), .second] [(.int (0 : Int32)), (.int (0 : Int32))])) _
  refine XS.icmpNo X5.here hx rfl (hb hby d4_36) rfl (flt (by decide : ¬ ((0 : Int32) < (0 : Int32)))).1 ?_
  show Steps p.tables e below (T5.setTop (mkF m 39 #[.val (.ref ar), .val (.int (0 : Int32)), .val (.int (3 : Int32)), .val (.int (0 : Int32)), .val (.int (2 : Int32)), .val (.long x2), .second] [])) _
  refine XS.lload X5.here hx rfl (hb hby d4_39) rfl ?_
  show Steps p.tables e below (T5.setTop (mkF m 41 #[.val (.ref ar), .val (.int (0 : Int32)), .val (.int (3 : Int32)), .val (.int (0 : Int32)), .val (.int (2 : Int32)), .val (.long x2), .second] [(.long x2)])) _
  refine XS.aloadN X5.here hx rfl (hb hby d4_41) rfl rfl ?_
  show Steps p.tables e below (T5.setTop (mkF m 42 #[.val (.ref ar), .val (.int (0 : Int32)), .val (.int (3 : Int32)), .val (.int (0 : Int32)), .val (.int (2 : Int32)), .val (.long x2), .second] [(.ref ar), (.long x2)])) _
  refine XS.iloadN X5.here hx rfl (hb hby d4_42) rfl ?_
  show Steps p.tables e below (T5.setTop (mkF m 43 #[.val (.ref ar), .val (.int (0 : Int32)), .val (.int (3 : Int32)), .val (.int (0 : Int32)), .val (.int (2 : Int32)), .val (.long x2), .second] [(.int (0 : Int32)), (.ref ar), (.long x2)])) _
  refine X5.laload hx (j := (0 : Int32)) (v := (.long x0)) (by rw [e5]; exact Ar6.1) (State.isArrayOf_alike hZ.alike Ar6.2.1) Ar6.2.2 hin6 hat6 (g := (mkF m 43 #[.val (.ref ar), .val (.int (0 : Int32)), .val (.int (3 : Int32)), .val (.int (0 : Int32)), .val (.int (2 : Int32)), .val (.long x2), .second] [(.int (0 : Int32)), (.ref ar), (.long x2)])) rfl rfl (hb hby d4_43) _ ?_
  show Steps p.tables e below (T5.setTop (mkF m 44 #[.val (.ref ar), .val (.int (0 : Int32)), .val (.int (3 : Int32)), .val (.int (0 : Int32)), .val (.int (2 : Int32)), .val (.long x2), .second] [(.long x0), (.long x2)])) _
  refine XS.lcmp X5.here hx rfl (hb hby d4_44) rfl ?_
  show Steps p.tables e below (T5.setTop (mkF m 45 #[.val (.ref ar), .val (.int (0 : Int32)), .val (.int (3 : Int32)), .val (.int (0 : Int32)), .val (.int (2 : Int32)), .val (.long x2), .second] [(.int (lcmpW x2 x0))])) _
  refine XS.ifNo X5.here hx rfl (hb hby d4_45) rfl ((if0 _ _).trans (tlt hc45_2).2.1) ?_
  show Steps p.tables e below (T5.setTop (mkF m 48 #[.val (.ref ar), .val (.int (0 : Int32)), .val (.int (3 : Int32)), .val (.int (0 : Int32)), .val (.int (2 : Int32)), .val (.long x2), .second] [])) _
  refine XS.aloadN X5.here hx rfl (hb hby d4_48) rfl rfl ?_
  show Steps p.tables e below (T5.setTop (mkF m 49 #[.val (.ref ar), .val (.int (0 : Int32)), .val (.int (3 : Int32)), .val (.int (0 : Int32)), .val (.int (2 : Int32)), .val (.long x2), .second] [(.ref ar)])) _
  refine XS.iloadN X5.here hx rfl (hb hby d4_49) rfl ?_
  show Steps p.tables e below (T5.setTop (mkF m 50 #[.val (.ref ar), .val (.int (0 : Int32)), .val (.int (3 : Int32)), .val (.int (0 : Int32)), .val (.int (2 : Int32)), .val (.long x2), .second] [(.int (0 : Int32)), (.ref ar)])) _
  refine XS.iconst X5.here hx rfl (hb hby d4_50) ?_
  show Steps p.tables e below (T5.setTop (mkF m 51 #[.val (.ref ar), .val (.int (0 : Int32)), .val (.int (3 : Int32)), .val (.int (0 : Int32)), .val (.int (2 : Int32)), .val (.long x2), .second] [(.int (1 : Int32)), (.int (0 : Int32)), (.ref ar)])) _
  refine XS.iadd X5.here hx rfl (hb hby d4_51) rfl ?_
  show Steps p.tables e below (T5.setTop (mkF m 52 #[.val (.ref ar), .val (.int (0 : Int32)), .val (.int (3 : Int32)), .val (.int (0 : Int32)), .val (.int (2 : Int32)), .val (.long x2), .second] [(.int ((0 : Int32) + (1 : Int32))), (.ref ar)])) _
  rw [show ((0 : Int32) + (1 : Int32)) = (1 : Int32) from by decide]
  show Steps p.tables e below (T5.setTop (mkF m 52 #[.val (.ref ar), .val (.int (0 : Int32)), .val (.int (3 : Int32)), .val (.int (0 : Int32)), .val (.int (2 : Int32)), .val (.long x2), .second] [(.int (1 : Int32)), (.ref ar)])) _
  refine XS.aloadN X5.here hx rfl (hb hby d4_52) rfl rfl ?_
  show Steps p.tables e below (T5.setTop (mkF m 53 #[.val (.ref ar), .val (.int (0 : Int32)), .val (.int (3 : Int32)), .val (.int (0 : Int32)), .val (.int (2 : Int32)), .val (.long x2), .second] [(.ref ar), (.int (1 : Int32)), (.ref ar)])) _
  refine XS.iloadN X5.here hx rfl (hb hby d4_53) rfl ?_
  show Steps p.tables e below (T5.setTop (mkF m 54 #[.val (.ref ar), .val (.int (0 : Int32)), .val (.int (3 : Int32)), .val (.int (0 : Int32)), .val (.int (2 : Int32)), .val (.long x2), .second] [(.int (0 : Int32)), (.ref ar), (.int (1 : Int32)), (.ref ar)])) _
  refine X5.laload hx (j := (0 : Int32)) (v := (.long x0)) (by rw [e5]; exact Ar7.1) (State.isArrayOf_alike hZ.alike Ar7.2.1) Ar7.2.2 hin7 hat7 (g := (mkF m 54 #[.val (.ref ar), .val (.int (0 : Int32)), .val (.int (3 : Int32)), .val (.int (0 : Int32)), .val (.int (2 : Int32)), .val (.long x2), .second] [(.int (0 : Int32)), (.ref ar), (.int (1 : Int32)), (.ref ar)])) rfl rfl (hb hby d4_54) _ ?_
  show Steps p.tables e below (T5.setTop (mkF m 55 #[.val (.ref ar), .val (.int (0 : Int32)), .val (.int (3 : Int32)), .val (.int (0 : Int32)), .val (.int (2 : Int32)), .val (.long x2), .second] [(.long x0), (.int (1 : Int32)), (.ref ar)])) _
  refine st8 _ ?_
  show Steps p.tables e below (T8.setTop (mkF m 56 #[.val (.ref ar), .val (.int (0 : Int32)), .val (.int (3 : Int32)), .val (.int (0 : Int32)), .val (.int (2 : Int32)), .val (.long x2), .second] [])) _
  refine XS.goto X8.here hx rfl (pc0 := 56) (pc' := 31) rfl (hb hby d4_56) (by decide) (by decide) ?_
  show Steps p.tables e below (T8.setTop (mkF m 31 #[.val (.ref ar), .val (.int (0 : Int32)), .val (.int (3 : Int32)), .val (.int (0 : Int32)), .val (.int (2 : Int32)), .val (.long x2), .second] [])) _
  refine XS.iinc X8.here hx rfl (hb hby d4_31) rfl (l' := #[.val (.ref ar), .val (.int (0 : Int32)), .val (.int (3 : Int32)), .val (.int ((0 : Int32) + (-1 : Int32))), .val (.int (2 : Int32)), .val (.long x2), .second]) rfl ?_
  show Steps p.tables e below (T8.setTop (mkF m 34 #[.val (.ref ar), .val (.int (0 : Int32)), .val (.int (3 : Int32)), .val (.int ((0 : Int32) + (-1 : Int32))), .val (.int (2 : Int32)), .val (.long x2), .second] [])) _
  rw [show ((0 : Int32) + (-1 : Int32)) = (-1 : Int32) from by decide]
  show Steps p.tables e below (T8.setTop (mkF m 34 #[.val (.ref ar), .val (.int (0 : Int32)), .val (.int (3 : Int32)), .val (.int (-1 : Int32)), .val (.int (2 : Int32)), .val (.long x2), .second] [])) _
  refine XS.iloadN X8.here hx rfl (hb hby d4_34) rfl ?_
  show Steps p.tables e below (T8.setTop (mkF m 35 #[.val (.ref ar), .val (.int (0 : Int32)), .val (.int (3 : Int32)), .val (.int (-1 : Int32)), .val (.int (2 : Int32)), .val (.long x2), .second] [(.int (-1 : Int32))])) _
  refine XS.iloadN X8.here hx rfl (hb hby d4_35) rfl ?_
  show Steps p.tables e below (T8.setTop (mkF m 36 #[.val (.ref ar), .val (.int (0 : Int32)), .val (.int (3 : Int32)), .val (.int (-1 : Int32)), .val (.int (2 : Int32)), .val (.long x2), .second] [(.int (0 : Int32)), (.int (-1 : Int32))])) _
  refine XS.icmpYes X8.here hx rfl (pc0 := 36) (pc' := 59) rfl (hb hby d4_36) rfl (tlt (by decide : (-1 : Int32) < (0 : Int32))).1 (by decide) (by decide) ?_
  show Steps p.tables e below (T8.setTop (mkF m 59 #[.val (.ref ar), .val (.int (0 : Int32)), .val (.int (3 : Int32)), .val (.int (-1 : Int32)), .val (.int (2 : Int32)), .val (.long x2), .second] [])) _
  refine XS.aloadN X8.here hx rfl (hb hby d4_59) rfl rfl ?_
  show Steps p.tables e below (T8.setTop (mkF m 60 #[.val (.ref ar), .val (.int (0 : Int32)), .val (.int (3 : Int32)), .val (.int (-1 : Int32)), .val (.int (2 : Int32)), .val (.long x2), .second] [(.ref ar)])) _
  refine XS.iloadN X8.here hx rfl (hb hby d4_60) rfl ?_
  show Steps p.tables e below (T8.setTop (mkF m 61 #[.val (.ref ar), .val (.int (0 : Int32)), .val (.int (3 : Int32)), .val (.int (-1 : Int32)), .val (.int (2 : Int32)), .val (.long x2), .second] [(.int (-1 : Int32)), (.ref ar)])) _
  refine XS.iconst X8.here hx rfl (hb hby d4_61) ?_
  show Steps p.tables e below (T8.setTop (mkF m 62 #[.val (.ref ar), .val (.int (0 : Int32)), .val (.int (3 : Int32)), .val (.int (-1 : Int32)), .val (.int (2 : Int32)), .val (.long x2), .second] [(.int (1 : Int32)), (.int (-1 : Int32)), (.ref ar)])) _
  refine XS.iadd X8.here hx rfl (hb hby d4_62) rfl ?_
  show Steps p.tables e below (T8.setTop (mkF m 63 #[.val (.ref ar), .val (.int (0 : Int32)), .val (.int (3 : Int32)), .val (.int (-1 : Int32)), .val (.int (2 : Int32)), .val (.long x2), .second] [(.int ((-1 : Int32) + (1 : Int32))), (.ref ar)])) _
  rw [show ((-1 : Int32) + (1 : Int32)) = (0 : Int32) from by decide]
  show Steps p.tables e below (T8.setTop (mkF m 63 #[.val (.ref ar), .val (.int (0 : Int32)), .val (.int (3 : Int32)), .val (.int (-1 : Int32)), .val (.int (2 : Int32)), .val (.long x2), .second] [(.int (0 : Int32)), (.ref ar)])) _
  refine XS.lload X8.here hx rfl (hb hby d4_63) rfl ?_
  show Steps p.tables e below (T8.setTop (mkF m 65 #[.val (.ref ar), .val (.int (0 : Int32)), .val (.int (3 : Int32)), .val (.int (-1 : Int32)), .val (.int (2 : Int32)), .val (.long x2), .second] [(.long x2), (.int (0 : Int32)), (.ref ar)])) _
  refine st9 _ ?_
  show Steps p.tables e below (T9.setTop (mkF m 66 #[.val (.ref ar), .val (.int (0 : Int32)), .val (.int (3 : Int32)), .val (.int (-1 : Int32)), .val (.int (2 : Int32)), .val (.long x2), .second] [])) _
  refine XS.goto X9.here hx rfl (pc0 := 66) (pc' := 3) rfl (hb hby d4_66) (by decide) (by decide) ?_
  exact kt
set_option maxRecDepth 65536 in
set_option maxHeartbeats 40000000 in
theorem tn4_1_0 {p : Program} {l : Launch} {e : Env} {R : Room} {s : State} {m : MethodId} {args : Array Value} {below : List Frame} {meth : Method} {c : Code} {T0 : State} {locs : List Loc} {cells slots : Nat} {Z : State} {a0 : Array Value} {h0 : Heap} {n0 : Nat} (ka : ClassId) (x0 : Int64) (x1 : Int64) (x2 : Int64) (x3 : Int64) (ar : Addr)
    (X0 : Stand p l e R s m args below meth c T0 locs cells slots) (hx : p.tables.exec = Jvm.exec) (hZ : Z.Warmed39 s.vm) (hw : ∀ d ∈ tables_1, d.before a0 Z = true) (hby : c.code = jdk_2529_method_15_code) (hml : c.maxLocals = 7) (hown : s.vm.findClass "java/util/DualPivotQuicksort" = some m.cls) (e0 : T0.heap = h0) (N0 : Fr n0 locs) (Z0 : n0 ≤ h0.size) (V_ar : Arv Z h0 ar ka .long (4 : Int32) [(.long x0), (.long x1), (.long x2), (.long x3)] (.long (0 : Int64))) (hc28 : ¬ ((lcmpW x1 x0) < (0 : Int32))) :
    ∃ (T' : State) (h' : Heap) (locs' : List Loc), Stand p l e R s m args below meth c T' locs' cells slots ∧ T'.heap = h' ∧ Fr n0 locs' ∧ h' = h0 ∧ Arv Z h' ar ka .long (4 : Int32) [(.long x0), (.long x1), (.long x2), (.long x3)] (.long (0 : Int64)) ∧ ∀ target, Steps p.tables e below (T'.setTop (mkF m 3 #[.val (.ref ar), .val (.int (0 : Int32)), .val (.int (4 : Int32)), .val (.int (1 : Int32)), .val (.int (1 : Int32)), .val (.long x1), .second] [])) target → Steps p.tables e below (T0.setTop (mkF m 3 #[.val (.ref ar), .val (.int (0 : Int32)), .val (.int (4 : Int32)), .unset, .val (.int (0 : Int32)), .unset, .unset] [])) target := by
  have Vc1 := V_ar
  obtain ⟨cl1, Ar1, q1, S1, M1, H1, G1⟩ := Vc1
  have hin1 : ¬ ((1 : Int32) < 0 ∨ cl1.slots.size ≤ ((1 : Int32)).toNatClampNeg) := inb_of S1 ⟨by decide, by decide⟩
  have hat1 : cl1.slots[((1 : Int32)).toNatClampNeg]? = some (.long x1) := Has.at H1 hin1 rfl
  have Vc2 := V_ar
  obtain ⟨cl2, Ar2, q2, S2, M2, H2, G2⟩ := Vc2
  have hin2 : ¬ ((0 : Int32) < 0 ∨ cl2.slots.size ≤ ((0 : Int32)).toNatClampNeg) := inb_of S2 ⟨by decide, by decide⟩
  have hat2 : cl2.slots[((0 : Int32)).toNatClampNeg]? = some (.long x0) := Has.at H2 hin2 rfl
  refine ⟨T0, h0, _, X0, e0, N0, rfl, V_ar, fun target kt => ?_⟩
  show Steps p.tables e below (T0.setTop (mkF m 3 #[.val (.ref ar), .val (.int (0 : Int32)), .val (.int (4 : Int32)), .unset, .val (.int (0 : Int32)), .unset, .unset] [])) _
  refine XS.iinc X0.here hx rfl (hb hby d4_3) rfl (l' := #[.val (.ref ar), .val (.int (0 : Int32)), .val (.int (4 : Int32)), .unset, .val (.int ((0 : Int32) + (1 : Int32))), .unset, .unset]) rfl ?_
  show Steps p.tables e below (T0.setTop (mkF m 6 #[.val (.ref ar), .val (.int (0 : Int32)), .val (.int (4 : Int32)), .unset, .val (.int ((0 : Int32) + (1 : Int32))), .unset, .unset] [])) _
  rw [show ((0 : Int32) + (1 : Int32)) = (1 : Int32) from by decide]
  show Steps p.tables e below (T0.setTop (mkF m 6 #[.val (.ref ar), .val (.int (0 : Int32)), .val (.int (4 : Int32)), .unset, .val (.int (1 : Int32)), .unset, .unset] [])) _
  refine XS.iload X0.here hx rfl (hb hby d4_6) rfl ?_
  show Steps p.tables e below (T0.setTop (mkF m 8 #[.val (.ref ar), .val (.int (0 : Int32)), .val (.int (4 : Int32)), .unset, .val (.int (1 : Int32)), .unset, .unset] [(.int (1 : Int32))])) _
  refine XS.iloadN X0.here hx rfl (hb hby d4_8) rfl ?_
  show Steps p.tables e below (T0.setTop (mkF m 9 #[.val (.ref ar), .val (.int (0 : Int32)), .val (.int (4 : Int32)), .unset, .val (.int (1 : Int32)), .unset, .unset] [(.int (4 : Int32)), (.int (1 : Int32))])) _
  refine XS.icmpNo X0.here hx rfl (hb hby d4_9) rfl (tlt (by decide : (1 : Int32) < (4 : Int32))).2.1 ?_
  show Steps p.tables e below (T0.setTop (mkF m 12 #[.val (.ref ar), .val (.int (0 : Int32)), .val (.int (4 : Int32)), .unset, .val (.int (1 : Int32)), .unset, .unset] [])) _
  refine XS.aloadN X0.here hx rfl (hb hby d4_12) rfl rfl ?_
  show Steps p.tables e below (T0.setTop (mkF m 13 #[.val (.ref ar), .val (.int (0 : Int32)), .val (.int (4 : Int32)), .unset, .val (.int (1 : Int32)), .unset, .unset] [(.ref ar)])) _
  refine XS.iload X0.here hx rfl (hb hby d4_13) rfl ?_
  show Steps p.tables e below (T0.setTop (mkF m 15 #[.val (.ref ar), .val (.int (0 : Int32)), .val (.int (4 : Int32)), .unset, .val (.int (1 : Int32)), .unset, .unset] [(.int (1 : Int32)), (.ref ar)])) _
  refine XS.dup X0.here hx rfl (hb hby d4_15) rfl rfl ?_
  show Steps p.tables e below (T0.setTop (mkF m 16 #[.val (.ref ar), .val (.int (0 : Int32)), .val (.int (4 : Int32)), .unset, .val (.int (1 : Int32)), .unset, .unset] [(.int (1 : Int32)), (.int (1 : Int32)), (.ref ar)])) _
  refine XS.istoreN X0.here hx rfl (hb hby d4_16) rfl (l' := #[.val (.ref ar), .val (.int (0 : Int32)), .val (.int (4 : Int32)), .val (.int (1 : Int32)), .val (.int (1 : Int32)), .unset, .unset]) rfl ?_
  show Steps p.tables e below (T0.setTop (mkF m 17 #[.val (.ref ar), .val (.int (0 : Int32)), .val (.int (4 : Int32)), .val (.int (1 : Int32)), .val (.int (1 : Int32)), .unset, .unset] [(.int (1 : Int32)), (.ref ar)])) _
  refine X0.laload hx (j := (1 : Int32)) (v := (.long x1)) (by rw [e0]; exact Ar1.1) (State.isArrayOf_alike hZ.alike Ar1.2.1) Ar1.2.2 hin1 hat1 (g := (mkF m 17 #[.val (.ref ar), .val (.int (0 : Int32)), .val (.int (4 : Int32)), .val (.int (1 : Int32)), .val (.int (1 : Int32)), .unset, .unset] [(.int (1 : Int32)), (.ref ar)])) rfl rfl (hb hby d4_17) _ ?_
  show Steps p.tables e below (T0.setTop (mkF m 18 #[.val (.ref ar), .val (.int (0 : Int32)), .val (.int (4 : Int32)), .val (.int (1 : Int32)), .val (.int (1 : Int32)), .unset, .unset] [(.long x1)])) _
  refine XS.lstore X0.here hx rfl (hb hby d4_18) rfl (l' := #[.val (.ref ar), .val (.int (0 : Int32)), .val (.int (4 : Int32)), .val (.int (1 : Int32)), .val (.int (1 : Int32)), .val (.long x1), .second]) rfl ?_
  show Steps p.tables e below (T0.setTop (mkF m 20 #[.val (.ref ar), .val (.int (0 : Int32)), .val (.int (4 : Int32)), .val (.int (1 : Int32)), .val (.int (1 : Int32)), .val (.long x1), .second] [])) _
  refine XS.lload X0.here hx rfl (hb hby d4_20) rfl ?_
  show Steps p.tables e below (T0.setTop (mkF m 22 #[.val (.ref ar), .val (.int (0 : Int32)), .val (.int (4 : Int32)), .val (.int (1 : Int32)), .val (.int (1 : Int32)), .val (.long x1), .second] [(.long x1)])) _
  refine XS.aloadN X0.here hx rfl (hb hby d4_22) rfl rfl ?_
  show Steps p.tables e below (T0.setTop (mkF m 23 #[.val (.ref ar), .val (.int (0 : Int32)), .val (.int (4 : Int32)), .val (.int (1 : Int32)), .val (.int (1 : Int32)), .val (.long x1), .second] [(.ref ar), (.long x1)])) _
  refine XS.iloadN X0.here hx rfl (hb hby d4_23) rfl ?_
  show Steps p.tables e below (T0.setTop (mkF m 24 #[.val (.ref ar), .val (.int (0 : Int32)), .val (.int (4 : Int32)), .val (.int (1 : Int32)), .val (.int (1 : Int32)), .val (.long x1), .second] [(.int (1 : Int32)), (.ref ar), (.long x1)])) _
  refine XS.iconst X0.here hx rfl (hb hby d4_24) ?_
  show Steps p.tables e below (T0.setTop (mkF m 25 #[.val (.ref ar), .val (.int (0 : Int32)), .val (.int (4 : Int32)), .val (.int (1 : Int32)), .val (.int (1 : Int32)), .val (.long x1), .second] [(.int (1 : Int32)), (.int (1 : Int32)), (.ref ar), (.long x1)])) _
  refine XS.isub X0.here hx rfl (hb hby d4_25) rfl ?_
  show Steps p.tables e below (T0.setTop (mkF m 26 #[.val (.ref ar), .val (.int (0 : Int32)), .val (.int (4 : Int32)), .val (.int (1 : Int32)), .val (.int (1 : Int32)), .val (.long x1), .second] [(.int ((1 : Int32) - (1 : Int32))), (.ref ar), (.long x1)])) _
  rw [show ((1 : Int32) - (1 : Int32)) = (0 : Int32) from by decide]
  show Steps p.tables e below (T0.setTop (mkF m 26 #[.val (.ref ar), .val (.int (0 : Int32)), .val (.int (4 : Int32)), .val (.int (1 : Int32)), .val (.int (1 : Int32)), .val (.long x1), .second] [(.int (0 : Int32)), (.ref ar), (.long x1)])) _
  refine X0.laload hx (j := (0 : Int32)) (v := (.long x0)) (by rw [e0]; exact Ar2.1) (State.isArrayOf_alike hZ.alike Ar2.2.1) Ar2.2.2 hin2 hat2 (g := (mkF m 26 #[.val (.ref ar), .val (.int (0 : Int32)), .val (.int (4 : Int32)), .val (.int (1 : Int32)), .val (.int (1 : Int32)), .val (.long x1), .second] [(.int (0 : Int32)), (.ref ar), (.long x1)])) rfl rfl (hb hby d4_26) _ ?_
  show Steps p.tables e below (T0.setTop (mkF m 27 #[.val (.ref ar), .val (.int (0 : Int32)), .val (.int (4 : Int32)), .val (.int (1 : Int32)), .val (.int (1 : Int32)), .val (.long x1), .second] [(.long x0), (.long x1)])) _
  refine XS.lcmp X0.here hx rfl (hb hby d4_27) rfl ?_
  show Steps p.tables e below (T0.setTop (mkF m 28 #[.val (.ref ar), .val (.int (0 : Int32)), .val (.int (4 : Int32)), .val (.int (1 : Int32)), .val (.int (1 : Int32)), .val (.long x1), .second] [(.int (lcmpW x1 x0))])) _
  refine XS.ifYes X0.here hx rfl (pc0 := 28) (pc' := 66) rfl (hb hby d4_28) rfl ((if0 _ _).trans (flt hc28).2.1) (by decide) (by decide) ?_
  show Steps p.tables e below (T0.setTop (mkF m 66 #[.val (.ref ar), .val (.int (0 : Int32)), .val (.int (4 : Int32)), .val (.int (1 : Int32)), .val (.int (1 : Int32)), .val (.long x1), .second] [])) _
  refine XS.goto X0.here hx rfl (pc0 := 66) (pc' := 3) rfl (hb hby d4_66) (by decide) (by decide) ?_
  exact kt
set_option maxRecDepth 65536 in
set_option maxHeartbeats 40000000 in
theorem tn4_1_1 {p : Program} {l : Launch} {e : Env} {R : Room} {s : State} {m : MethodId} {args : Array Value} {below : List Frame} {meth : Method} {c : Code} {T0 : State} {locs : List Loc} {cells slots : Nat} {Z : State} {a0 : Array Value} {h0 : Heap} {n0 : Nat} (ka : ClassId) (x0 : Int64) (x1 : Int64) (x2 : Int64) (x3 : Int64) (ar : Addr)
    (X0 : Stand p l e R s m args below meth c T0 locs cells slots) (hx : p.tables.exec = Jvm.exec) (hZ : Z.Warmed39 s.vm) (hw : ∀ d ∈ tables_1, d.before a0 Z = true) (hby : c.code = jdk_2529_method_15_code) (hml : c.maxLocals = 7) (hown : s.vm.findClass "java/util/DualPivotQuicksort" = some m.cls) (e0 : T0.heap = h0) (N0 : Fr n0 locs) (Z0 : n0 ≤ h0.size) (V_ar : Arv Z h0 ar ka .long (4 : Int32) [(.long x0), (.long x1), (.long x2), (.long x3)] (.long (0 : Int64))) (hc28 : (lcmpW x1 x0) < (0 : Int32)) (g_ar : n0 ≤ ar) :
    ∃ (T' : State) (h' : Heap) (locs' : List Loc), Stand p l e R s m args below meth c T' locs' cells slots ∧ T'.heap = h' ∧ Fr n0 locs' ∧ Keep h0 h' [ar] ∧ Arv Z h' ar ka .long (4 : Int32) [(.long x1), (.long x0), (.long x2), (.long x3)] (.long (0 : Int64)) ∧ ∀ target, Steps p.tables e below (T'.setTop (mkF m 3 #[.val (.ref ar), .val (.int (0 : Int32)), .val (.int (4 : Int32)), .val (.int (-1 : Int32)), .val (.int (1 : Int32)), .val (.long x1), .second] [])) target → Steps p.tables e below (T0.setTop (mkF m 3 #[.val (.ref ar), .val (.int (0 : Int32)), .val (.int (4 : Int32)), .unset, .val (.int (0 : Int32)), .unset, .unset] [])) target := by
  have Vc1 := V_ar
  obtain ⟨cl1, Ar1, q1, S1, M1, H1, G1⟩ := Vc1
  have hin1 : ¬ ((1 : Int32) < 0 ∨ cl1.slots.size ≤ ((1 : Int32)).toNatClampNeg) := inb_of S1 ⟨by decide, by decide⟩
  have hat1 : cl1.slots[((1 : Int32)).toNatClampNeg]? = some (.long x1) := Has.at H1 hin1 rfl
  have Vc2 := V_ar
  obtain ⟨cl2, Ar2, q2, S2, M2, H2, G2⟩ := Vc2
  have hin2 : ¬ ((0 : Int32) < 0 ∨ cl2.slots.size ≤ ((0 : Int32)).toNatClampNeg) := inb_of S2 ⟨by decide, by decide⟩
  have hat2 : cl2.slots[((0 : Int32)).toNatClampNeg]? = some (.long x0) := Has.at H2 hin2 rfl
  have Vc3 := V_ar
  obtain ⟨cl3, Ar3, q3, S3, M3, H3, G3⟩ := Vc3
  have hin3 : ¬ ((0 : Int32) < 0 ∨ cl3.slots.size ≤ ((0 : Int32)).toNatClampNeg) := inb_of S3 ⟨by decide, by decide⟩
  have hat3 : cl3.slots[((0 : Int32)).toNatClampNeg]? = some (.long x0) := Has.at H3 hin3 rfl
  have Vc4 := V_ar
  obtain ⟨cl4, Ar4, q4, S4, M4, H4, G4⟩ := Vc4
  have hin4 : ¬ ((0 : Int32) < 0 ∨ cl4.slots.size ≤ ((0 : Int32)).toNatClampNeg) := inb_of S4 ⟨by decide, by decide⟩
  have hat4 : cl4.slots[((0 : Int32)).toNatClampNeg]? = some (.long x0) := Has.at H4 hin4 rfl
  have Vc5 := V_ar
  obtain ⟨cl5, Ar5, q5, S5, M5, H5, G5⟩ := Vc5
  have hin5 : ¬ ((1 : Int32) < 0 ∨ cl5.slots.size ≤ ((1 : Int32)).toNatClampNeg) := inb_of S5 ⟨by decide, by decide⟩
  obtain ⟨T5, h5, X5, e5, W5, st5⟩ := stJ X0 hx hZ e0 Ar5 (j := (1 : Int32)) hin5 (g := (mkF m 55 #[.val (.ref ar), .val (.int (0 : Int32)), .val (.int (4 : Int32)), .val (.int (0 : Int32)), .val (.int (1 : Int32)), .val (.long x1), .second] [(.long x0), (.int (1 : Int32)), (.ref ar)])) rfl rfl (hb hby d4_55)
  have V5 : Arv Z h5 ar ka .long (4 : Int32) [(.long x0), (.long x0), (.long x2), (.long x3)] (.long (0 : Int64)) := Arv.set Ar5 q5 S5 M5 H5 G5 rfl W5 1 rfl (Nat.le_of_ble_eq_true rfl)
  have N5 := Fr.snoc X5 N0 g_ar
  have Vc6 := V5
  obtain ⟨cl6, Ar6, q6, S6, M6, H6, G6⟩ := Vc6
  have hin6 : ¬ ((0 : Int32) < 0 ∨ cl6.slots.size ≤ ((0 : Int32)).toNatClampNeg) := inb_of S6 ⟨by decide, by decide⟩
  obtain ⟨T6, h6, X6, e6, W6, st6⟩ := stJ X5 hx hZ e5 Ar6 (j := (0 : Int32)) hin6 (g := (mkF m 65 #[.val (.ref ar), .val (.int (0 : Int32)), .val (.int (4 : Int32)), .val (.int (-1 : Int32)), .val (.int (1 : Int32)), .val (.long x1), .second] [(.long x1), (.int (0 : Int32)), (.ref ar)])) rfl rfl (hb hby d4_65)
  have V6 : Arv Z h6 ar ka .long (4 : Int32) [(.long x1), (.long x0), (.long x2), (.long x3)] (.long (0 : Int64)) := Arv.set Ar6 q6 S6 M6 H6 G6 rfl W6 0 rfl (Nat.le_of_ble_eq_true rfl)
  have N6 := Fr.snoc X6 N5 g_ar
  refine ⟨T6, h6, _, X6, e6, N6, (((Keep.refl h0 [ar]).wr W5 (Or.inl (List.mem_of_getElem? (i := 0) rfl))).wr W6 (Or.inl (List.mem_of_getElem? (i := 0) rfl))), V6, fun target kt => ?_⟩
  show Steps p.tables e below (T0.setTop (mkF m 3 #[.val (.ref ar), .val (.int (0 : Int32)), .val (.int (4 : Int32)), .unset, .val (.int (0 : Int32)), .unset, .unset] [])) _
  refine XS.iinc X0.here hx rfl (hb hby d4_3) rfl (l' := #[.val (.ref ar), .val (.int (0 : Int32)), .val (.int (4 : Int32)), .unset, .val (.int ((0 : Int32) + (1 : Int32))), .unset, .unset]) rfl ?_
  show Steps p.tables e below (T0.setTop (mkF m 6 #[.val (.ref ar), .val (.int (0 : Int32)), .val (.int (4 : Int32)), .unset, .val (.int ((0 : Int32) + (1 : Int32))), .unset, .unset] [])) _
  rw [show ((0 : Int32) + (1 : Int32)) = (1 : Int32) from by decide]
  show Steps p.tables e below (T0.setTop (mkF m 6 #[.val (.ref ar), .val (.int (0 : Int32)), .val (.int (4 : Int32)), .unset, .val (.int (1 : Int32)), .unset, .unset] [])) _
  refine XS.iload X0.here hx rfl (hb hby d4_6) rfl ?_
  show Steps p.tables e below (T0.setTop (mkF m 8 #[.val (.ref ar), .val (.int (0 : Int32)), .val (.int (4 : Int32)), .unset, .val (.int (1 : Int32)), .unset, .unset] [(.int (1 : Int32))])) _
  refine XS.iloadN X0.here hx rfl (hb hby d4_8) rfl ?_
  show Steps p.tables e below (T0.setTop (mkF m 9 #[.val (.ref ar), .val (.int (0 : Int32)), .val (.int (4 : Int32)), .unset, .val (.int (1 : Int32)), .unset, .unset] [(.int (4 : Int32)), (.int (1 : Int32))])) _
  refine XS.icmpNo X0.here hx rfl (hb hby d4_9) rfl (tlt (by decide : (1 : Int32) < (4 : Int32))).2.1 ?_
  show Steps p.tables e below (T0.setTop (mkF m 12 #[.val (.ref ar), .val (.int (0 : Int32)), .val (.int (4 : Int32)), .unset, .val (.int (1 : Int32)), .unset, .unset] [])) _
  refine XS.aloadN X0.here hx rfl (hb hby d4_12) rfl rfl ?_
  show Steps p.tables e below (T0.setTop (mkF m 13 #[.val (.ref ar), .val (.int (0 : Int32)), .val (.int (4 : Int32)), .unset, .val (.int (1 : Int32)), .unset, .unset] [(.ref ar)])) _
  refine XS.iload X0.here hx rfl (hb hby d4_13) rfl ?_
  show Steps p.tables e below (T0.setTop (mkF m 15 #[.val (.ref ar), .val (.int (0 : Int32)), .val (.int (4 : Int32)), .unset, .val (.int (1 : Int32)), .unset, .unset] [(.int (1 : Int32)), (.ref ar)])) _
  refine XS.dup X0.here hx rfl (hb hby d4_15) rfl rfl ?_
  show Steps p.tables e below (T0.setTop (mkF m 16 #[.val (.ref ar), .val (.int (0 : Int32)), .val (.int (4 : Int32)), .unset, .val (.int (1 : Int32)), .unset, .unset] [(.int (1 : Int32)), (.int (1 : Int32)), (.ref ar)])) _
  refine XS.istoreN X0.here hx rfl (hb hby d4_16) rfl (l' := #[.val (.ref ar), .val (.int (0 : Int32)), .val (.int (4 : Int32)), .val (.int (1 : Int32)), .val (.int (1 : Int32)), .unset, .unset]) rfl ?_
  show Steps p.tables e below (T0.setTop (mkF m 17 #[.val (.ref ar), .val (.int (0 : Int32)), .val (.int (4 : Int32)), .val (.int (1 : Int32)), .val (.int (1 : Int32)), .unset, .unset] [(.int (1 : Int32)), (.ref ar)])) _
  refine X0.laload hx (j := (1 : Int32)) (v := (.long x1)) (by rw [e0]; exact Ar1.1) (State.isArrayOf_alike hZ.alike Ar1.2.1) Ar1.2.2 hin1 hat1 (g := (mkF m 17 #[.val (.ref ar), .val (.int (0 : Int32)), .val (.int (4 : Int32)), .val (.int (1 : Int32)), .val (.int (1 : Int32)), .unset, .unset] [(.int (1 : Int32)), (.ref ar)])) rfl rfl (hb hby d4_17) _ ?_
  show Steps p.tables e below (T0.setTop (mkF m 18 #[.val (.ref ar), .val (.int (0 : Int32)), .val (.int (4 : Int32)), .val (.int (1 : Int32)), .val (.int (1 : Int32)), .unset, .unset] [(.long x1)])) _
  refine XS.lstore X0.here hx rfl (hb hby d4_18) rfl (l' := #[.val (.ref ar), .val (.int (0 : Int32)), .val (.int (4 : Int32)), .val (.int (1 : Int32)), .val (.int (1 : Int32)), .val (.long x1), .second]) rfl ?_
  show Steps p.tables e below (T0.setTop (mkF m 20 #[.val (.ref ar), .val (.int (0 : Int32)), .val (.int (4 : Int32)), .val (.int (1 : Int32)), .val (.int (1 : Int32)), .val (.long x1), .second] [])) _
  refine XS.lload X0.here hx rfl (hb hby d4_20) rfl ?_
  show Steps p.tables e below (T0.setTop (mkF m 22 #[.val (.ref ar), .val (.int (0 : Int32)), .val (.int (4 : Int32)), .val (.int (1 : Int32)), .val (.int (1 : Int32)), .val (.long x1), .second] [(.long x1)])) _
  refine XS.aloadN X0.here hx rfl (hb hby d4_22) rfl rfl ?_
  show Steps p.tables e below (T0.setTop (mkF m 23 #[.val (.ref ar), .val (.int (0 : Int32)), .val (.int (4 : Int32)), .val (.int (1 : Int32)), .val (.int (1 : Int32)), .val (.long x1), .second] [(.ref ar), (.long x1)])) _
  refine XS.iloadN X0.here hx rfl (hb hby d4_23) rfl ?_
  show Steps p.tables e below (T0.setTop (mkF m 24 #[.val (.ref ar), .val (.int (0 : Int32)), .val (.int (4 : Int32)), .val (.int (1 : Int32)), .val (.int (1 : Int32)), .val (.long x1), .second] [(.int (1 : Int32)), (.ref ar), (.long x1)])) _
  refine XS.iconst X0.here hx rfl (hb hby d4_24) ?_
  show Steps p.tables e below (T0.setTop (mkF m 25 #[.val (.ref ar), .val (.int (0 : Int32)), .val (.int (4 : Int32)), .val (.int (1 : Int32)), .val (.int (1 : Int32)), .val (.long x1), .second] [(.int (1 : Int32)), (.int (1 : Int32)), (.ref ar), (.long x1)])) _
  refine XS.isub X0.here hx rfl (hb hby d4_25) rfl ?_
  show Steps p.tables e below (T0.setTop (mkF m 26 #[.val (.ref ar), .val (.int (0 : Int32)), .val (.int (4 : Int32)), .val (.int (1 : Int32)), .val (.int (1 : Int32)), .val (.long x1), .second] [(.int ((1 : Int32) - (1 : Int32))), (.ref ar), (.long x1)])) _
  rw [show ((1 : Int32) - (1 : Int32)) = (0 : Int32) from by decide]
  show Steps p.tables e below (T0.setTop (mkF m 26 #[.val (.ref ar), .val (.int (0 : Int32)), .val (.int (4 : Int32)), .val (.int (1 : Int32)), .val (.int (1 : Int32)), .val (.long x1), .second] [(.int (0 : Int32)), (.ref ar), (.long x1)])) _
  refine X0.laload hx (j := (0 : Int32)) (v := (.long x0)) (by rw [e0]; exact Ar2.1) (State.isArrayOf_alike hZ.alike Ar2.2.1) Ar2.2.2 hin2 hat2 (g := (mkF m 26 #[.val (.ref ar), .val (.int (0 : Int32)), .val (.int (4 : Int32)), .val (.int (1 : Int32)), .val (.int (1 : Int32)), .val (.long x1), .second] [(.int (0 : Int32)), (.ref ar), (.long x1)])) rfl rfl (hb hby d4_26) _ ?_
  show Steps p.tables e below (T0.setTop (mkF m 27 #[.val (.ref ar), .val (.int (0 : Int32)), .val (.int (4 : Int32)), .val (.int (1 : Int32)), .val (.int (1 : Int32)), .val (.long x1), .second] [(.long x0), (.long x1)])) _
  refine XS.lcmp X0.here hx rfl (hb hby d4_27) rfl ?_
  show Steps p.tables e below (T0.setTop (mkF m 28 #[.val (.ref ar), .val (.int (0 : Int32)), .val (.int (4 : Int32)), .val (.int (1 : Int32)), .val (.int (1 : Int32)), .val (.long x1), .second] [(.int (lcmpW x1 x0))])) _
  refine XS.ifNo X0.here hx rfl (hb hby d4_28) rfl ((if0 _ _).trans (tlt hc28).2.1) ?_
  show Steps p.tables e below (T0.setTop (mkF m 31 #[.val (.ref ar), .val (.int (0 : Int32)), .val (.int (4 : Int32)), .val (.int (1 : Int32)), .val (.int (1 : Int32)), .val (.long x1), .second] [])) _
  refine XS.iinc X0.here hx rfl (hb hby d4_31) rfl (l' := #[.val (.ref ar), .val (.int (0 : Int32)), .val (.int (4 : Int32)), .val (.int ((1 : Int32) + (-1 : Int32))), .val (.int (1 : Int32)), .val (.long x1), .second]) rfl ?_
  show Steps p.tables e below (T0.setTop (mkF m 34 #[.val (.ref ar), .val (.int (0 : Int32)), .val (.int (4 : Int32)), .val (.int ((1 : Int32) + (-1 : Int32))), .val (.int (1 : Int32)), .val (.long x1), .second] [])) _
  rw [show ((1 : Int32) + (-1 : Int32)) = (0 : Int32) from by decide]
  show Steps p.tables e below (T0.setTop (mkF m 34 #[.val (.ref ar), .val (.int (0 : Int32)), .val (.int (4 : Int32)), .val (.int (0 : Int32)), .val (.int (1 : Int32)), .val (.long x1), .second] [])) _
  refine XS.iloadN X0.here hx rfl (hb hby d4_34) rfl ?_
  show Steps p.tables e below (T0.setTop (mkF m 35 #[.val (.ref ar), .val (.int (0 : Int32)), .val (.int (4 : Int32)), .val (.int (0 : Int32)), .val (.int (1 : Int32)), .val (.long x1), .second] [(.int (0 : Int32))])) _
  refine XS.iloadN X0.here hx rfl (hb hby d4_35) rfl ?_
  show Steps p.tables e below (T0.setTop (mkF m 36 #[.val (.ref ar), .val (.int (0 : Int32)), .val (.int (4 : Int32)), .val (.int (0 : Int32)), .val (.int (1 : Int32)), .val (.long x1), .second] [(.int (0 : Int32)), (.int (0 : Int32))])) _
  refine XS.icmpNo X0.here hx rfl (hb hby d4_36) rfl (flt (by decide : ¬ ((0 : Int32) < (0 : Int32)))).1 ?_
  show Steps p.tables e below (T0.setTop (mkF m 39 #[.val (.ref ar), .val (.int (0 : Int32)), .val (.int (4 : Int32)), .val (.int (0 : Int32)), .val (.int (1 : Int32)), .val (.long x1), .second] [])) _
  refine XS.lload X0.here hx rfl (hb hby d4_39) rfl ?_
  show Steps p.tables e below (T0.setTop (mkF m 41 #[.val (.ref ar), .val (.int (0 : Int32)), .val (.int (4 : Int32)), .val (.int (0 : Int32)), .val (.int (1 : Int32)), .val (.long x1), .second] [(.long x1)])) _
  refine XS.aloadN X0.here hx rfl (hb hby d4_41) rfl rfl ?_
  show Steps p.tables e below (T0.setTop (mkF m 42 #[.val (.ref ar), .val (.int (0 : Int32)), .val (.int (4 : Int32)), .val (.int (0 : Int32)), .val (.int (1 : Int32)), .val (.long x1), .second] [(.ref ar), (.long x1)])) _
  refine XS.iloadN X0.here hx rfl (hb hby d4_42) rfl ?_
  show Steps p.tables e below (T0.setTop (mkF m 43 #[.val (.ref ar), .val (.int (0 : Int32)), .val (.int (4 : Int32)), .val (.int (0 : Int32)), .val (.int (1 : Int32)), .val (.long x1), .second] [(.int (0 : Int32)), (.ref ar), (.long x1)])) _
  refine X0.laload hx (j := (0 : Int32)) (v := (.long x0)) (by rw [e0]; exact Ar3.1) (State.isArrayOf_alike hZ.alike Ar3.2.1) Ar3.2.2 hin3 hat3 (g := (mkF m 43 #[.val (.ref ar), .val (.int (0 : Int32)), .val (.int (4 : Int32)), .val (.int (0 : Int32)), .val (.int (1 : Int32)), .val (.long x1), .second] [(.int (0 : Int32)), (.ref ar), (.long x1)])) rfl rfl (hb hby d4_43) _ ?_
  show Steps p.tables e below (T0.setTop (mkF m 44 #[.val (.ref ar), .val (.int (0 : Int32)), .val (.int (4 : Int32)), .val (.int (0 : Int32)), .val (.int (1 : Int32)), .val (.long x1), .second] [(.long x0), (.long x1)])) _
  refine XS.lcmp X0.here hx rfl (hb hby d4_44) rfl ?_
  show Steps p.tables e below (T0.setTop (mkF m 45 #[.val (.ref ar), .val (.int (0 : Int32)), .val (.int (4 : Int32)), .val (.int (0 : Int32)), .val (.int (1 : Int32)), .val (.long x1), .second] [(.int (lcmpW x1 x0))])) _
  refine XS.ifNo X0.here hx rfl (hb hby d4_45) rfl ((if0 _ _).trans (tlt hc28).2.1) ?_
  show Steps p.tables e below (T0.setTop (mkF m 48 #[.val (.ref ar), .val (.int (0 : Int32)), .val (.int (4 : Int32)), .val (.int (0 : Int32)), .val (.int (1 : Int32)), .val (.long x1), .second] [])) _
  refine XS.aloadN X0.here hx rfl (hb hby d4_48) rfl rfl ?_
  show Steps p.tables e below (T0.setTop (mkF m 49 #[.val (.ref ar), .val (.int (0 : Int32)), .val (.int (4 : Int32)), .val (.int (0 : Int32)), .val (.int (1 : Int32)), .val (.long x1), .second] [(.ref ar)])) _
  refine XS.iloadN X0.here hx rfl (hb hby d4_49) rfl ?_
  show Steps p.tables e below (T0.setTop (mkF m 50 #[.val (.ref ar), .val (.int (0 : Int32)), .val (.int (4 : Int32)), .val (.int (0 : Int32)), .val (.int (1 : Int32)), .val (.long x1), .second] [(.int (0 : Int32)), (.ref ar)])) _
  refine XS.iconst X0.here hx rfl (hb hby d4_50) ?_
  show Steps p.tables e below (T0.setTop (mkF m 51 #[.val (.ref ar), .val (.int (0 : Int32)), .val (.int (4 : Int32)), .val (.int (0 : Int32)), .val (.int (1 : Int32)), .val (.long x1), .second] [(.int (1 : Int32)), (.int (0 : Int32)), (.ref ar)])) _
  refine XS.iadd X0.here hx rfl (hb hby d4_51) rfl ?_
  show Steps p.tables e below (T0.setTop (mkF m 52 #[.val (.ref ar), .val (.int (0 : Int32)), .val (.int (4 : Int32)), .val (.int (0 : Int32)), .val (.int (1 : Int32)), .val (.long x1), .second] [(.int ((0 : Int32) + (1 : Int32))), (.ref ar)])) _
  rw [show ((0 : Int32) + (1 : Int32)) = (1 : Int32) from by decide]
  show Steps p.tables e below (T0.setTop (mkF m 52 #[.val (.ref ar), .val (.int (0 : Int32)), .val (.int (4 : Int32)), .val (.int (0 : Int32)), .val (.int (1 : Int32)), .val (.long x1), .second] [(.int (1 : Int32)), (.ref ar)])) _
  refine XS.aloadN X0.here hx rfl (hb hby d4_52) rfl rfl ?_
  show Steps p.tables e below (T0.setTop (mkF m 53 #[.val (.ref ar), .val (.int (0 : Int32)), .val (.int (4 : Int32)), .val (.int (0 : Int32)), .val (.int (1 : Int32)), .val (.long x1), .second] [(.ref ar), (.int (1 : Int32)), (.ref ar)])) _
  refine XS.iloadN X0.here hx rfl (hb hby d4_53) rfl ?_
  show Steps p.tables e below (T0.setTop (mkF m 54 #[.val (.ref ar), .val (.int (0 : Int32)), .val (.int (4 : Int32)), .val (.int (0 : Int32)), .val (.int (1 : Int32)), .val (.long x1), .second] [(.int (0 : Int32)), (.ref ar), (.int (1 : Int32)), (.ref ar)])) _
  refine X0.laload hx (j := (0 : Int32)) (v := (.long x0)) (by rw [e0]; exact Ar4.1) (State.isArrayOf_alike hZ.alike Ar4.2.1) Ar4.2.2 hin4 hat4 (g := (mkF m 54 #[.val (.ref ar), .val (.int (0 : Int32)), .val (.int (4 : Int32)), .val (.int (0 : Int32)), .val (.int (1 : Int32)), .val (.long x1), .second] [(.int (0 : Int32)), (.ref ar), (.int (1 : Int32)), (.ref ar)])) rfl rfl (hb hby d4_54) _ ?_
  show Steps p.tables e below (T0.setTop (mkF m 55 #[.val (.ref ar), .val (.int (0 : Int32)), .val (.int (4 : Int32)), .val (.int (0 : Int32)), .val (.int (1 : Int32)), .val (.long x1), .second] [(.long x0), (.int (1 : Int32)), (.ref ar)])) _
  refine st5 _ ?_
  show Steps p.tables e below (T5.setTop (mkF m 56 #[.val (.ref ar), .val (.int (0 : Int32)), .val (.int (4 : Int32)), .val (.int (0 : Int32)), .val (.int (1 : Int32)), .val (.long x1), .second] [])) _
  refine XS.goto X5.here hx rfl (pc0 := 56) (pc' := 31) rfl (hb hby d4_56) (by decide) (by decide) ?_
  show Steps p.tables e below (T5.setTop (mkF m 31 #[.val (.ref ar), .val (.int (0 : Int32)), .val (.int (4 : Int32)), .val (.int (0 : Int32)), .val (.int (1 : Int32)), .val (.long x1), .second] [])) _
  refine XS.iinc X5.here hx rfl (hb hby d4_31) rfl (l' := #[.val (.ref ar), .val (.int (0 : Int32)), .val (.int (4 : Int32)), .val (.int ((0 : Int32) + (-1 : Int32))), .val (.int (1 : Int32)), .val (.long x1), .second]) rfl ?_
  show Steps p.tables e below (T5.setTop (mkF m 34 #[.val (.ref ar), .val (.int (0 : Int32)), .val (.int (4 : Int32)), .val (.int ((0 : Int32) + (-1 : Int32))), .val (.int (1 : Int32)), .val (.long x1), .second] [])) _
  rw [show ((0 : Int32) + (-1 : Int32)) = (-1 : Int32) from by decide]
  show Steps p.tables e below (T5.setTop (mkF m 34 #[.val (.ref ar), .val (.int (0 : Int32)), .val (.int (4 : Int32)), .val (.int (-1 : Int32)), .val (.int (1 : Int32)), .val (.long x1), .second] [])) _
  refine XS.iloadN X5.here hx rfl (hb hby d4_34) rfl ?_
  show Steps p.tables e below (T5.setTop (mkF m 35 #[.val (.ref ar), .val (.int (0 : Int32)), .val (.int (4 : Int32)), .val (.int (-1 : Int32)), .val (.int (1 : Int32)), .val (.long x1), .second] [(.int (-1 : Int32))])) _
  refine XS.iloadN X5.here hx rfl (hb hby d4_35) rfl ?_
  show Steps p.tables e below (T5.setTop (mkF m 36 #[.val (.ref ar), .val (.int (0 : Int32)), .val (.int (4 : Int32)), .val (.int (-1 : Int32)), .val (.int (1 : Int32)), .val (.long x1), .second] [(.int (0 : Int32)), (.int (-1 : Int32))])) _
  refine XS.icmpYes X5.here hx rfl (pc0 := 36) (pc' := 59) rfl (hb hby d4_36) rfl (tlt (by decide : (-1 : Int32) < (0 : Int32))).1 (by decide) (by decide) ?_
  show Steps p.tables e below (T5.setTop (mkF m 59 #[.val (.ref ar), .val (.int (0 : Int32)), .val (.int (4 : Int32)), .val (.int (-1 : Int32)), .val (.int (1 : Int32)), .val (.long x1), .second] [])) _
  refine XS.aloadN X5.here hx rfl (hb hby d4_59) rfl rfl ?_
  show Steps p.tables e below (T5.setTop (mkF m 60 #[.val (.ref ar), .val (.int (0 : Int32)), .val (.int (4 : Int32)), .val (.int (-1 : Int32)), .val (.int (1 : Int32)), .val (.long x1), .second] [(.ref ar)])) _
  refine XS.iloadN X5.here hx rfl (hb hby d4_60) rfl ?_
  show Steps p.tables e below (T5.setTop (mkF m 61 #[.val (.ref ar), .val (.int (0 : Int32)), .val (.int (4 : Int32)), .val (.int (-1 : Int32)), .val (.int (1 : Int32)), .val (.long x1), .second] [(.int (-1 : Int32)), (.ref ar)])) _
  refine XS.iconst X5.here hx rfl (hb hby d4_61) ?_
  show Steps p.tables e below (T5.setTop (mkF m 62 #[.val (.ref ar), .val (.int (0 : Int32)), .val (.int (4 : Int32)), .val (.int (-1 : Int32)), .val (.int (1 : Int32)), .val (.long x1), .second] [(.int (1 : Int32)), (.int (-1 : Int32)), (.ref ar)])) _
  refine XS.iadd X5.here hx rfl (hb hby d4_62) rfl ?_
  show Steps p.tables e below (T5.setTop (mkF m 63 #[.val (.ref ar), .val (.int (0 : Int32)), .val (.int (4 : Int32)), .val (.int (-1 : Int32)), .val (.int (1 : Int32)), .val (.long x1), .second] [(.int ((-1 : Int32) + (1 : Int32))), (.ref ar)])) _
  rw [show ((-1 : Int32) + (1 : Int32)) = (0 : Int32) from by decide]
  show Steps p.tables e below (T5.setTop (mkF m 63 #[.val (.ref ar), .val (.int (0 : Int32)), .val (.int (4 : Int32)), .val (.int (-1 : Int32)), .val (.int (1 : Int32)), .val (.long x1), .second] [(.int (0 : Int32)), (.ref ar)])) _
  refine XS.lload X5.here hx rfl (hb hby d4_63) rfl ?_
  show Steps p.tables e below (T5.setTop (mkF m 65 #[.val (.ref ar), .val (.int (0 : Int32)), .val (.int (4 : Int32)), .val (.int (-1 : Int32)), .val (.int (1 : Int32)), .val (.long x1), .second] [(.long x1), (.int (0 : Int32)), (.ref ar)])) _
  refine st6 _ ?_
  show Steps p.tables e below (T6.setTop (mkF m 66 #[.val (.ref ar), .val (.int (0 : Int32)), .val (.int (4 : Int32)), .val (.int (-1 : Int32)), .val (.int (1 : Int32)), .val (.long x1), .second] [])) _
  refine XS.goto X6.here hx rfl (pc0 := 66) (pc' := 3) rfl (hb hby d4_66) (by decide) (by decide) ?_
  exact kt
set_option maxRecDepth 65536 in
set_option maxHeartbeats 40000000 in
theorem tn4_2_0 {p : Program} {l : Launch} {e : Env} {R : Room} {s : State} {m : MethodId} {args : Array Value} {below : List Frame} {meth : Method} {c : Code} {T0 : State} {locs : List Loc} {cells slots : Nat} {Z : State} {a0 : Array Value} {h0 : Heap} {n0 : Nat} (ka : ClassId) (x0 : Int64) (x1 : Int64) (x2 : Int64) (x3 : Int64) (ar : Addr) (j0 : Int32) (v0 : Int64)
    (X0 : Stand p l e R s m args below meth c T0 locs cells slots) (hx : p.tables.exec = Jvm.exec) (hZ : Z.Warmed39 s.vm) (hw : ∀ d ∈ tables_1, d.before a0 Z = true) (hby : c.code = jdk_2529_method_15_code) (hml : c.maxLocals = 7) (hown : s.vm.findClass "java/util/DualPivotQuicksort" = some m.cls) (e0 : T0.heap = h0) (N0 : Fr n0 locs) (Z0 : n0 ≤ h0.size) (V_ar : Arv Z h0 ar ka .long (4 : Int32) [(.long x0), (.long x1), (.long x2), (.long x3)] (.long (0 : Int64))) (hc28 : ¬ ((lcmpW x2 x1) < (0 : Int32))) :
    ∃ (T' : State) (h' : Heap) (locs' : List Loc), Stand p l e R s m args below meth c T' locs' cells slots ∧ T'.heap = h' ∧ Fr n0 locs' ∧ h' = h0 ∧ Arv Z h' ar ka .long (4 : Int32) [(.long x0), (.long x1), (.long x2), (.long x3)] (.long (0 : Int64)) ∧ ∀ target, Steps p.tables e below (T'.setTop (mkF m 3 #[.val (.ref ar), .val (.int (0 : Int32)), .val (.int (4 : Int32)), .val (.int (2 : Int32)), .val (.int (2 : Int32)), .val (.long x2), .second] [])) target → Steps p.tables e below (T0.setTop (mkF m 3 #[.val (.ref ar), .val (.int (0 : Int32)), .val (.int (4 : Int32)), .val (.int j0), .val (.int (1 : Int32)), .val (.long v0), .second] [])) target := by
  have Vc1 := V_ar
  obtain ⟨cl1, Ar1, q1, S1, M1, H1, G1⟩ := Vc1
  have hin1 : ¬ ((2 : Int32) < 0 ∨ cl1.slots.size ≤ ((2 : Int32)).toNatClampNeg) := inb_of S1 ⟨by decide, by decide⟩
  have hat1 : cl1.slots[((2 : Int32)).toNatClampNeg]? = some (.long x2) := Has.at H1 hin1 rfl
  have Vc2 := V_ar
  obtain ⟨cl2, Ar2, q2, S2, M2, H2, G2⟩ := Vc2
  have hin2 : ¬ ((1 : Int32) < 0 ∨ cl2.slots.size ≤ ((1 : Int32)).toNatClampNeg) := inb_of S2 ⟨by decide, by decide⟩
  have hat2 : cl2.slots[((1 : Int32)).toNatClampNeg]? = some (.long x1) := Has.at H2 hin2 rfl
  refine ⟨T0, h0, _, X0, e0, N0, rfl, V_ar, fun target kt => ?_⟩
  show Steps p.tables e below (T0.setTop (mkF m 3 #[.val (.ref ar), .val (.int (0 : Int32)), .val (.int (4 : Int32)), .val (.int j0), .val (.int (1 : Int32)), .val (.long v0), .second] [])) _
  refine XS.iinc X0.here hx rfl (hb hby d4_3) rfl (l' := #[.val (.ref ar), .val (.int (0 : Int32)), .val (.int (4 : Int32)), .val (.int j0), .val (.int ((1 : Int32) + (1 : Int32))), .val (.long v0), .second]) rfl ?_
  show Steps p.tables e below (T0.setTop (mkF m 6 #[.val (.ref ar), .val (.int (0 : Int32)), .val (.int (4 : Int32)), .val (.int j0), .val (.int ((1 : Int32) + (1 : Int32))), .val (.long v0), .second] [])) _
  rw [show ((1 : Int32) + (1 : Int32)) = (2 : Int32) from by decide]
  show Steps p.tables e below (T0.setTop (mkF m 6 #[.val (.ref ar), .val (.int (0 : Int32)), .val (.int (4 : Int32)), .val (.int j0), .val (.int (2 : Int32)), .val (.long v0), .second] [])) _
  refine XS.iload X0.here hx rfl (hb hby d4_6) rfl ?_
  show Steps p.tables e below (T0.setTop (mkF m 8 #[.val (.ref ar), .val (.int (0 : Int32)), .val (.int (4 : Int32)), .val (.int j0), .val (.int (2 : Int32)), .val (.long v0), .second] [(.int (2 : Int32))])) _
  refine XS.iloadN X0.here hx rfl (hb hby d4_8) rfl ?_
  show Steps p.tables e below (T0.setTop (mkF m 9 #[.val (.ref ar), .val (.int (0 : Int32)), .val (.int (4 : Int32)), .val (.int j0), .val (.int (2 : Int32)), .val (.long v0), .second] [(.int (4 : Int32)), (.int (2 : Int32))])) _
  refine XS.icmpNo X0.here hx rfl (hb hby d4_9) rfl (tlt (by decide : (2 : Int32) < (4 : Int32))).2.1 ?_
  show Steps p.tables e below (T0.setTop (mkF m 12 #[.val (.ref ar), .val (.int (0 : Int32)), .val (.int (4 : Int32)), .val (.int j0), .val (.int (2 : Int32)), .val (.long v0), .second] [])) _
  refine XS.aloadN X0.here hx rfl (hb hby d4_12) rfl rfl ?_
  show Steps p.tables e below (T0.setTop (mkF m 13 #[.val (.ref ar), .val (.int (0 : Int32)), .val (.int (4 : Int32)), .val (.int j0), .val (.int (2 : Int32)), .val (.long v0), .second] [(.ref ar)])) _
  refine XS.iload X0.here hx rfl (hb hby d4_13) rfl ?_
  show Steps p.tables e below (T0.setTop (mkF m 15 #[.val (.ref ar), .val (.int (0 : Int32)), .val (.int (4 : Int32)), .val (.int j0), .val (.int (2 : Int32)), .val (.long v0), .second] [(.int (2 : Int32)), (.ref ar)])) _
  refine XS.dup X0.here hx rfl (hb hby d4_15) rfl rfl ?_
  show Steps p.tables e below (T0.setTop (mkF m 16 #[.val (.ref ar), .val (.int (0 : Int32)), .val (.int (4 : Int32)), .val (.int j0), .val (.int (2 : Int32)), .val (.long v0), .second] [(.int (2 : Int32)), (.int (2 : Int32)), (.ref ar)])) _
  refine XS.istoreN X0.here hx rfl (hb hby d4_16) rfl (l' := #[.val (.ref ar), .val (.int (0 : Int32)), .val (.int (4 : Int32)), .val (.int (2 : Int32)), .val (.int (2 : Int32)), .val (.long v0), .second]) rfl ?_
  show Steps p.tables e below (T0.setTop (mkF m 17 #[.val (.ref ar), .val (.int (0 : Int32)), .val (.int (4 : Int32)), .val (.int (2 : Int32)), .val (.int (2 : Int32)), .val (.long v0), .second] [(.int (2 : Int32)), (.ref ar)])) _
  refine X0.laload hx (j := (2 : Int32)) (v := (.long x2)) (by rw [e0]; exact Ar1.1) (State.isArrayOf_alike hZ.alike Ar1.2.1) Ar1.2.2 hin1 hat1 (g := (mkF m 17 #[.val (.ref ar), .val (.int (0 : Int32)), .val (.int (4 : Int32)), .val (.int (2 : Int32)), .val (.int (2 : Int32)), .val (.long v0), .second] [(.int (2 : Int32)), (.ref ar)])) rfl rfl (hb hby d4_17) _ ?_
  show Steps p.tables e below (T0.setTop (mkF m 18 #[.val (.ref ar), .val (.int (0 : Int32)), .val (.int (4 : Int32)), .val (.int (2 : Int32)), .val (.int (2 : Int32)), .val (.long v0), .second] [(.long x2)])) _
  refine XS.lstore X0.here hx rfl (hb hby d4_18) rfl (l' := #[.val (.ref ar), .val (.int (0 : Int32)), .val (.int (4 : Int32)), .val (.int (2 : Int32)), .val (.int (2 : Int32)), .val (.long x2), .second]) rfl ?_
  show Steps p.tables e below (T0.setTop (mkF m 20 #[.val (.ref ar), .val (.int (0 : Int32)), .val (.int (4 : Int32)), .val (.int (2 : Int32)), .val (.int (2 : Int32)), .val (.long x2), .second] [])) _
  refine XS.lload X0.here hx rfl (hb hby d4_20) rfl ?_
  show Steps p.tables e below (T0.setTop (mkF m 22 #[.val (.ref ar), .val (.int (0 : Int32)), .val (.int (4 : Int32)), .val (.int (2 : Int32)), .val (.int (2 : Int32)), .val (.long x2), .second] [(.long x2)])) _
  refine XS.aloadN X0.here hx rfl (hb hby d4_22) rfl rfl ?_
  show Steps p.tables e below (T0.setTop (mkF m 23 #[.val (.ref ar), .val (.int (0 : Int32)), .val (.int (4 : Int32)), .val (.int (2 : Int32)), .val (.int (2 : Int32)), .val (.long x2), .second] [(.ref ar), (.long x2)])) _
  refine XS.iloadN X0.here hx rfl (hb hby d4_23) rfl ?_
  show Steps p.tables e below (T0.setTop (mkF m 24 #[.val (.ref ar), .val (.int (0 : Int32)), .val (.int (4 : Int32)), .val (.int (2 : Int32)), .val (.int (2 : Int32)), .val (.long x2), .second] [(.int (2 : Int32)), (.ref ar), (.long x2)])) _
  refine XS.iconst X0.here hx rfl (hb hby d4_24) ?_
  show Steps p.tables e below (T0.setTop (mkF m 25 #[.val (.ref ar), .val (.int (0 : Int32)), .val (.int (4 : Int32)), .val (.int (2 : Int32)), .val (.int (2 : Int32)), .val (.long x2), .second] [(.int (1 : Int32)), (.int (2 : Int32)), (.ref ar), (.long x2)])) _
  refine XS.isub X0.here hx rfl (hb hby d4_25) rfl ?_
  show Steps p.tables e below (T0.setTop (mkF m 26 #[.val (.ref ar), .val (.int (0 : Int32)), .val (.int (4 : Int32)), .val (.int (2 : Int32)), .val (.int (2 : Int32)), .val (.long x2), .second] [(.int ((2 : Int32) - (1 : Int32))), (.ref ar), (.long x2)])) _
  rw [show ((2 : Int32) - (1 : Int32)) = (1 : Int32) from by decide]
  show Steps p.tables e below (T0.setTop (mkF m 26 #[.val (.ref ar), .val (.int (0 : Int32)), .val (.int (4 : Int32)), .val (.int (2 : Int32)), .val (.int (2 : Int32)), .val (.long x2), .second] [(.int (1 : Int32)), (.ref ar), (.long x2)])) _
  refine X0.laload hx (j := (1 : Int32)) (v := (.long x1)) (by rw [e0]; exact Ar2.1) (State.isArrayOf_alike hZ.alike Ar2.2.1) Ar2.2.2 hin2 hat2 (g := (mkF m 26 #[.val (.ref ar), .val (.int (0 : Int32)), .val (.int (4 : Int32)), .val (.int (2 : Int32)), .val (.int (2 : Int32)), .val (.long x2), .second] [(.int (1 : Int32)), (.ref ar), (.long x2)])) rfl rfl (hb hby d4_26) _ ?_
  show Steps p.tables e below (T0.setTop (mkF m 27 #[.val (.ref ar), .val (.int (0 : Int32)), .val (.int (4 : Int32)), .val (.int (2 : Int32)), .val (.int (2 : Int32)), .val (.long x2), .second] [(.long x1), (.long x2)])) _
  refine XS.lcmp X0.here hx rfl (hb hby d4_27) rfl ?_
  show Steps p.tables e below (T0.setTop (mkF m 28 #[.val (.ref ar), .val (.int (0 : Int32)), .val (.int (4 : Int32)), .val (.int (2 : Int32)), .val (.int (2 : Int32)), .val (.long x2), .second] [(.int (lcmpW x2 x1))])) _
  refine XS.ifYes X0.here hx rfl (pc0 := 28) (pc' := 66) rfl (hb hby d4_28) rfl ((if0 _ _).trans (flt hc28).2.1) (by decide) (by decide) ?_
  show Steps p.tables e below (T0.setTop (mkF m 66 #[.val (.ref ar), .val (.int (0 : Int32)), .val (.int (4 : Int32)), .val (.int (2 : Int32)), .val (.int (2 : Int32)), .val (.long x2), .second] [])) _
  refine XS.goto X0.here hx rfl (pc0 := 66) (pc' := 3) rfl (hb hby d4_66) (by decide) (by decide) ?_
  exact kt
set_option maxRecDepth 65536 in
set_option maxHeartbeats 40000000 in
theorem tn4_2_1 {p : Program} {l : Launch} {e : Env} {R : Room} {s : State} {m : MethodId} {args : Array Value} {below : List Frame} {meth : Method} {c : Code} {T0 : State} {locs : List Loc} {cells slots : Nat} {Z : State} {a0 : Array Value} {h0 : Heap} {n0 : Nat} (ka : ClassId) (x0 : Int64) (x1 : Int64) (x2 : Int64) (x3 : Int64) (ar : Addr) (j0 : Int32) (v0 : Int64)
    (X0 : Stand p l e R s m args below meth c T0 locs cells slots) (hx : p.tables.exec = Jvm.exec) (hZ : Z.Warmed39 s.vm) (hw : ∀ d ∈ tables_1, d.before a0 Z = true) (hby : c.code = jdk_2529_method_15_code) (hml : c.maxLocals = 7) (hown : s.vm.findClass "java/util/DualPivotQuicksort" = some m.cls) (e0 : T0.heap = h0) (N0 : Fr n0 locs) (Z0 : n0 ≤ h0.size) (V_ar : Arv Z h0 ar ka .long (4 : Int32) [(.long x0), (.long x1), (.long x2), (.long x3)] (.long (0 : Int64))) (hc28 : (lcmpW x2 x1) < (0 : Int32)) (g_ar : n0 ≤ ar) (hc45_2 : ¬ ((lcmpW x2 x0) < (0 : Int32))) :
    ∃ (T' : State) (h' : Heap) (locs' : List Loc), Stand p l e R s m args below meth c T' locs' cells slots ∧ T'.heap = h' ∧ Fr n0 locs' ∧ Keep h0 h' [ar] ∧ Arv Z h' ar ka .long (4 : Int32) [(.long x0), (.long x2), (.long x1), (.long x3)] (.long (0 : Int64)) ∧ ∀ target, Steps p.tables e below (T'.setTop (mkF m 3 #[.val (.ref ar), .val (.int (0 : Int32)), .val (.int (4 : Int32)), .val (.int (0 : Int32)), .val (.int (2 : Int32)), .val (.long x2), .second] [])) target → Steps p.tables e below (T0.setTop (mkF m 3 #[.val (.ref ar), .val (.int (0 : Int32)), .val (.int (4 : Int32)), .val (.int j0), .val (.int (1 : Int32)), .val (.long v0), .second] [])) target := by
  have Vc1 := V_ar
  obtain ⟨cl1, Ar1, q1, S1, M1, H1, G1⟩ := Vc1
  have hin1 : ¬ ((2 : Int32) < 0 ∨ cl1.slots.size ≤ ((2 : Int32)).toNatClampNeg) := inb_of S1 ⟨by decide, by decide⟩
  have hat1 : cl1.slots[((2 : Int32)).toNatClampNeg]? = some (.long x2) := Has.at H1 hin1 rfl
  have Vc2 := V_ar
  obtain ⟨cl2, Ar2, q2, S2, M2, H2, G2⟩ := Vc2
  have hin2 : ¬ ((1 : Int32) < 0 ∨ cl2.slots.size ≤ ((1 : Int32)).toNatClampNeg) := inb_of S2 ⟨by decide, by decide⟩
  have hat2 : cl2.slots[((1 : Int32)).toNatClampNeg]? = some (.long x1) := Has.at H2 hin2 rfl
  have Vc3 := V_ar
  obtain ⟨cl3, Ar3, q3, S3, M3, H3, G3⟩ := Vc3
  have hin3 : ¬ ((1 : Int32) < 0 ∨ cl3.slots.size ≤ ((1 : Int32)).toNatClampNeg) := inb_of S3 ⟨by decide, by decide⟩
  have hat3 : cl3.slots[((1 : Int32)).toNatClampNeg]? = some (.long x1) := Has.at H3 hin3 rfl
  have Vc4 := V_ar
  obtain ⟨cl4, Ar4, q4, S4, M4, H4, G4⟩ := Vc4
  have hin4 : ¬ ((1 : Int32) < 0 ∨ cl4.slots.size ≤ ((1 : Int32)).toNatClampNeg) := inb_of S4 ⟨by decide, by decide⟩
  have hat4 : cl4.slots[((1 : Int32)).toNatClampNeg]? = some (.long x1) := Has.at H4 hin4 rfl
  have Vc5 := V_ar
  obtain ⟨cl5, Ar5, q5, S5, M5, H5, G5⟩ := Vc5
  have hin5 : ¬ ((2 : Int32) < 0 ∨ cl5.slots.size ≤ ((2 : Int32)).toNatClampNeg) := inb_of S5 ⟨by decide, by decide⟩
  obtain ⟨T5, h5, X5, e5, W5, st5⟩ := stJ X0 hx hZ e0 Ar5 (j := (2 : Int32)) hin5 (g := (mkF m 55 #[.val (.ref ar), .val (.int (0 : Int32)), .val (.int (4 : Int32)), .val (.int (1 : Int32)), .val (.int (2 : Int32)), .val (.long x2), .second] [(.long x1), (.int (2 : Int32)), (.ref ar)])) rfl rfl (hb hby d4_55)
  have V5 : Arv Z h5 ar ka .long (4 : Int32) [(.long x0), (.long x1), (.long x1), (.long x3)] (.long (0 : Int64)) := Arv.set Ar5 q5 S5 M5 H5 G5 rfl W5 2 rfl (Nat.le_of_ble_eq_true rfl)
  have N5 := Fr.snoc X5 N0 g_ar
  have Vc6 := V5
  obtain ⟨cl6, Ar6, q6, S6, M6, H6, G6⟩ := Vc6
  have hin6 : ¬ ((0 : Int32) < 0 ∨ cl6.slots.size ≤ ((0 : Int32)).toNatClampNeg) := inb_of S6 ⟨by decide, by decide⟩
  have hat6 : cl6.slots[((0 : Int32)).toNatClampNeg]? = some (.long x0) := Has.at H6 hin6 rfl
  have Vc7 := V5
  obtain ⟨cl7, Ar7, q7, S7, M7, H7, G7⟩ := Vc7
  have hin7 : ¬ ((1 : Int32) < 0 ∨ cl7.slots.size ≤ ((1 : Int32)).toNatClampNeg) := inb_of S7 ⟨by decide, by decide⟩
  obtain ⟨T7, h7, X7, e7, W7, st7⟩ := stJ X5 hx hZ e5 Ar7 (j := (1 : Int32)) hin7 (g := (mkF m 65 #[.val (.ref ar), .val (.int (0 : Int32)), .val (.int (4 : Int32)), .val (.int (0 : Int32)), .val (.int (2 : Int32)), .val (.long x2), .second] [(.long x2), (.int (1 : Int32)), (.ref ar)])) rfl rfl (hb hby d4_65)
  have V7 : Arv Z h7 ar ka .long (4 : Int32) [(.long x0), (.long x2), (.long x1), (.long x3)] (.long (0 : Int64)) := Arv.set Ar7 q7 S7 M7 H7 G7 rfl W7 1 rfl (Nat.le_of_ble_eq_true rfl)
  have N7 := Fr.snoc X7 N5 g_ar
  refine ⟨T7, h7, _, X7, e7, N7, (((Keep.refl h0 [ar]).wr W5 (Or.inl (List.mem_of_getElem? (i := 0) rfl))).wr W7 (Or.inl (List.mem_of_getElem? (i := 0) rfl))), V7, fun target kt => ?_⟩
  show Steps p.tables e below (T0.setTop (mkF m 3 #[.val (.ref ar), .val (.int (0 : Int32)), .val (.int (4 : Int32)), .val (.int j0), .val (.int (1 : Int32)), .val (.long v0), .second] [])) _
  refine XS.iinc X0.here hx rfl (hb hby d4_3) rfl (l' := #[.val (.ref ar), .val (.int (0 : Int32)), .val (.int (4 : Int32)), .val (.int j0), .val (.int ((1 : Int32) + (1 : Int32))), .val (.long v0), .second]) rfl ?_
  show Steps p.tables e below (T0.setTop (mkF m 6 #[.val (.ref ar), .val (.int (0 : Int32)), .val (.int (4 : Int32)), .val (.int j0), .val (.int ((1 : Int32) + (1 : Int32))), .val (.long v0), .second] [])) _
  rw [show ((1 : Int32) + (1 : Int32)) = (2 : Int32) from by decide]
  show Steps p.tables e below (T0.setTop (mkF m 6 #[.val (.ref ar), .val (.int (0 : Int32)), .val (.int (4 : Int32)), .val (.int j0), .val (.int (2 : Int32)), .val (.long v0), .second] [])) _
  refine XS.iload X0.here hx rfl (hb hby d4_6) rfl ?_
  show Steps p.tables e below (T0.setTop (mkF m 8 #[.val (.ref ar), .val (.int (0 : Int32)), .val (.int (4 : Int32)), .val (.int j0), .val (.int (2 : Int32)), .val (.long v0), .second] [(.int (2 : Int32))])) _
  refine XS.iloadN X0.here hx rfl (hb hby d4_8) rfl ?_
  show Steps p.tables e below (T0.setTop (mkF m 9 #[.val (.ref ar), .val (.int (0 : Int32)), .val (.int (4 : Int32)), .val (.int j0), .val (.int (2 : Int32)), .val (.long v0), .second] [(.int (4 : Int32)), (.int (2 : Int32))])) _
  refine XS.icmpNo X0.here hx rfl (hb hby d4_9) rfl (tlt (by decide : (2 : Int32) < (4 : Int32))).2.1 ?_
  show Steps p.tables e below (T0.setTop (mkF m 12 #[.val (.ref ar), .val (.int (0 : Int32)), .val (.int (4 : Int32)), .val (.int j0), .val (.int (2 : Int32)), .val (.long v0), .second] [])) _
  refine XS.aloadN X0.here hx rfl (hb hby d4_12) rfl rfl ?_
  show Steps p.tables e below (T0.setTop (mkF m 13 #[.val (.ref ar), .val (.int (0 : Int32)), .val (.int (4 : Int32)), .val (.int j0), .val (.int (2 : Int32)), .val (.long v0), .second] [(.ref ar)])) _
  refine XS.iload X0.here hx rfl (hb hby d4_13) rfl ?_
  show Steps p.tables e below (T0.setTop (mkF m 15 #[.val (.ref ar), .val (.int (0 : Int32)), .val (.int (4 : Int32)), .val (.int j0), .val (.int (2 : Int32)), .val (.long v0), .second] [(.int (2 : Int32)), (.ref ar)])) _
  refine XS.dup X0.here hx rfl (hb hby d4_15) rfl rfl ?_
  show Steps p.tables e below (T0.setTop (mkF m 16 #[.val (.ref ar), .val (.int (0 : Int32)), .val (.int (4 : Int32)), .val (.int j0), .val (.int (2 : Int32)), .val (.long v0), .second] [(.int (2 : Int32)), (.int (2 : Int32)), (.ref ar)])) _
  refine XS.istoreN X0.here hx rfl (hb hby d4_16) rfl (l' := #[.val (.ref ar), .val (.int (0 : Int32)), .val (.int (4 : Int32)), .val (.int (2 : Int32)), .val (.int (2 : Int32)), .val (.long v0), .second]) rfl ?_
  show Steps p.tables e below (T0.setTop (mkF m 17 #[.val (.ref ar), .val (.int (0 : Int32)), .val (.int (4 : Int32)), .val (.int (2 : Int32)), .val (.int (2 : Int32)), .val (.long v0), .second] [(.int (2 : Int32)), (.ref ar)])) _
  refine X0.laload hx (j := (2 : Int32)) (v := (.long x2)) (by rw [e0]; exact Ar1.1) (State.isArrayOf_alike hZ.alike Ar1.2.1) Ar1.2.2 hin1 hat1 (g := (mkF m 17 #[.val (.ref ar), .val (.int (0 : Int32)), .val (.int (4 : Int32)), .val (.int (2 : Int32)), .val (.int (2 : Int32)), .val (.long v0), .second] [(.int (2 : Int32)), (.ref ar)])) rfl rfl (hb hby d4_17) _ ?_
  show Steps p.tables e below (T0.setTop (mkF m 18 #[.val (.ref ar), .val (.int (0 : Int32)), .val (.int (4 : Int32)), .val (.int (2 : Int32)), .val (.int (2 : Int32)), .val (.long v0), .second] [(.long x2)])) _
  refine XS.lstore X0.here hx rfl (hb hby d4_18) rfl (l' := #[.val (.ref ar), .val (.int (0 : Int32)), .val (.int (4 : Int32)), .val (.int (2 : Int32)), .val (.int (2 : Int32)), .val (.long x2), .second]) rfl ?_
  show Steps p.tables e below (T0.setTop (mkF m 20 #[.val (.ref ar), .val (.int (0 : Int32)), .val (.int (4 : Int32)), .val (.int (2 : Int32)), .val (.int (2 : Int32)), .val (.long x2), .second] [])) _
  refine XS.lload X0.here hx rfl (hb hby d4_20) rfl ?_
  show Steps p.tables e below (T0.setTop (mkF m 22 #[.val (.ref ar), .val (.int (0 : Int32)), .val (.int (4 : Int32)), .val (.int (2 : Int32)), .val (.int (2 : Int32)), .val (.long x2), .second] [(.long x2)])) _
  refine XS.aloadN X0.here hx rfl (hb hby d4_22) rfl rfl ?_
  show Steps p.tables e below (T0.setTop (mkF m 23 #[.val (.ref ar), .val (.int (0 : Int32)), .val (.int (4 : Int32)), .val (.int (2 : Int32)), .val (.int (2 : Int32)), .val (.long x2), .second] [(.ref ar), (.long x2)])) _
  refine XS.iloadN X0.here hx rfl (hb hby d4_23) rfl ?_
  show Steps p.tables e below (T0.setTop (mkF m 24 #[.val (.ref ar), .val (.int (0 : Int32)), .val (.int (4 : Int32)), .val (.int (2 : Int32)), .val (.int (2 : Int32)), .val (.long x2), .second] [(.int (2 : Int32)), (.ref ar), (.long x2)])) _
  refine XS.iconst X0.here hx rfl (hb hby d4_24) ?_
  show Steps p.tables e below (T0.setTop (mkF m 25 #[.val (.ref ar), .val (.int (0 : Int32)), .val (.int (4 : Int32)), .val (.int (2 : Int32)), .val (.int (2 : Int32)), .val (.long x2), .second] [(.int (1 : Int32)), (.int (2 : Int32)), (.ref ar), (.long x2)])) _
  refine XS.isub X0.here hx rfl (hb hby d4_25) rfl ?_
  show Steps p.tables e below (T0.setTop (mkF m 26 #[.val (.ref ar), .val (.int (0 : Int32)), .val (.int (4 : Int32)), .val (.int (2 : Int32)), .val (.int (2 : Int32)), .val (.long x2), .second] [(.int ((2 : Int32) - (1 : Int32))), (.ref ar), (.long x2)])) _
  rw [show ((2 : Int32) - (1 : Int32)) = (1 : Int32) from by decide]
  show Steps p.tables e below (T0.setTop (mkF m 26 #[.val (.ref ar), .val (.int (0 : Int32)), .val (.int (4 : Int32)), .val (.int (2 : Int32)), .val (.int (2 : Int32)), .val (.long x2), .second] [(.int (1 : Int32)), (.ref ar), (.long x2)])) _
  refine X0.laload hx (j := (1 : Int32)) (v := (.long x1)) (by rw [e0]; exact Ar2.1) (State.isArrayOf_alike hZ.alike Ar2.2.1) Ar2.2.2 hin2 hat2 (g := (mkF m 26 #[.val (.ref ar), .val (.int (0 : Int32)), .val (.int (4 : Int32)), .val (.int (2 : Int32)), .val (.int (2 : Int32)), .val (.long x2), .second] [(.int (1 : Int32)), (.ref ar), (.long x2)])) rfl rfl (hb hby d4_26) _ ?_
  show Steps p.tables e below (T0.setTop (mkF m 27 #[.val (.ref ar), .val (.int (0 : Int32)), .val (.int (4 : Int32)), .val (.int (2 : Int32)), .val (.int (2 : Int32)), .val (.long x2), .second] [(.long x1), (.long x2)])) _
  refine XS.lcmp X0.here hx rfl (hb hby d4_27) rfl ?_
  show Steps p.tables e below (T0.setTop (mkF m 28 #[.val (.ref ar), .val (.int (0 : Int32)), .val (.int (4 : Int32)), .val (.int (2 : Int32)), .val (.int (2 : Int32)), .val (.long x2), .second] [(.int (lcmpW x2 x1))])) _
  refine XS.ifNo X0.here hx rfl (hb hby d4_28) rfl ((if0 _ _).trans (tlt hc28).2.1) ?_
  show Steps p.tables e below (T0.setTop (mkF m 31 #[.val (.ref ar), .val (.int (0 : Int32)), .val (.int (4 : Int32)), .val (.int (2 : Int32)), .val (.int (2 : Int32)), .val (.long x2), .second] [])) _
  refine XS.iinc X0.here hx rfl (hb hby d4_31) rfl (l' := #[.val (.ref ar), .val (.int (0 : Int32)), .val (.int (4 : Int32)), .val (.int ((2 : Int32) + (-1 : Int32))), .val (.int (2 : Int32)), .val (.long x2), .second]) rfl ?_
  show Steps p.tables e below (T0.setTop (mkF m 34 #[.val (.ref ar), .val (.int (0 : Int32)), .val (.int (4 : Int32)), .val (.int ((2 : Int32) + (-1 : Int32))), .val (.int (2 : Int32)), .val (.long x2), .second] [])) _
  rw [show ((2 : Int32) + (-1 : Int32)) = (1 : Int32) from by decide]
  show Steps p.tables e below (T0.setTop (mkF m 34 #[.val (.ref ar), .val (.int (0 : Int32)), .val (.int (4 : Int32)), .val (.int (1 : Int32)), .val (.int (2 : Int32)), .val (.long x2), .second] [])) _
  refine XS.iloadN X0.here hx rfl (hb hby d4_34) rfl ?_
  show Steps p.tables e below (T0.setTop (mkF m 35 #[.val (.ref ar), .val (.int (0 : Int32)), .val (.int (4 : Int32)), .val (.int (1 : Int32)), .val (.int (2 : Int32)), .val (.long x2), .second] [(.int (1 : Int32))])) _
  refine XS.iloadN X0.here hx rfl (hb hby d4_35) rfl ?_
  show Steps p.tables e below (T0.setTop (mkF m 36 #[.val (.ref ar), .val (.int (0 : Int32)), .val (.int (4 : Int32)), .val (.int (1 : Int32)), .val (.int (2 : Int32)), .val (.long x2), .second] [(.int (0 : Int32)), (.int (1 : Int32))])) _
  refine XS.icmpNo X0.here hx rfl (hb hby d4_36) rfl (flt (by decide : ¬ ((1 : Int32) < (0 : Int32)))).1 ?_
  show Steps p.tables e below (T0.setTop (mkF m 39 #[.val (.ref ar), .val (.int (0 : Int32)), .val (.int (4 : Int32)), .val (.int (1 : Int32)), .val (.int (2 : Int32)), .val (.long x2), .second] [])) _
  refine XS.lload X0.here hx rfl (hb hby d4_39) rfl ?_
  show Steps p.tables e below (T0.setTop (mkF m 41 #[.val (.ref ar), .val (.int (0 : Int32)), .val (.int (4 : Int32)), .val (.int (1 : Int32)), .val (.int (2 : Int32)), .val (.long x2), .second] [(.long x2)])) _
  refine XS.aloadN X0.here hx rfl (hb hby d4_41) rfl rfl ?_
  show Steps p.tables e below (T0.setTop (mkF m 42 #[.val (.ref ar), .val (.int (0 : Int32)), .val (.int (4 : Int32)), .val (.int (1 : Int32)), .val (.int (2 : Int32)), .val (.long x2), .second] [(.ref ar), (.long x2)])) _
  refine XS.iloadN X0.here hx rfl (hb hby d4_42) rfl ?_
  show Steps p.tables e below (T0.setTop (mkF m 43 #[.val (.ref ar), .val (.int (0 : Int32)), .val (.int (4 : Int32)), .val (.int (1 : Int32)), .val (.int (2 : Int32)), .val (.long x2), .second] [(.int (1 : Int32)), (.ref ar), (.long x2)])) _
  refine X0.laload hx (j := (1 : Int32)) (v := (.long x1)) (by rw [e0]; exact Ar3.1) (State.isArrayOf_alike hZ.alike Ar3.2.1) Ar3.2.2 hin3 hat3 (g := (mkF m 43 #[.val (.ref ar), .val (.int (0 : Int32)), .val (.int (4 : Int32)), .val (.int (1 : Int32)), .val (.int (2 : Int32)), .val (.long x2), .second] [(.int (1 : Int32)), (.ref ar), (.long x2)])) rfl rfl (hb hby d4_43) _ ?_
  show Steps p.tables e below (T0.setTop (mkF m 44 #[.val (.ref ar), .val (.int (0 : Int32)), .val (.int (4 : Int32)), .val (.int (1 : Int32)), .val (.int (2 : Int32)), .val (.long x2), .second] [(.long x1), (.long x2)])) _
  refine XS.lcmp X0.here hx rfl (hb hby d4_44) rfl ?_
  show Steps p.tables e below (T0.setTop (mkF m 45 #[.val (.ref ar), .val (.int (0 : Int32)), .val (.int (4 : Int32)), .val (.int (1 : Int32)), .val (.int (2 : Int32)), .val (.long x2), .second] [(.int (lcmpW x2 x1))])) _
  refine XS.ifNo X0.here hx rfl (hb hby d4_45) rfl ((if0 _ _).trans (tlt hc28).2.1) ?_
  show Steps p.tables e below (T0.setTop (mkF m 48 #[.val (.ref ar), .val (.int (0 : Int32)), .val (.int (4 : Int32)), .val (.int (1 : Int32)), .val (.int (2 : Int32)), .val (.long x2), .second] [])) _
  refine XS.aloadN X0.here hx rfl (hb hby d4_48) rfl rfl ?_
  show Steps p.tables e below (T0.setTop (mkF m 49 #[.val (.ref ar), .val (.int (0 : Int32)), .val (.int (4 : Int32)), .val (.int (1 : Int32)), .val (.int (2 : Int32)), .val (.long x2), .second] [(.ref ar)])) _
  refine XS.iloadN X0.here hx rfl (hb hby d4_49) rfl ?_
  show Steps p.tables e below (T0.setTop (mkF m 50 #[.val (.ref ar), .val (.int (0 : Int32)), .val (.int (4 : Int32)), .val (.int (1 : Int32)), .val (.int (2 : Int32)), .val (.long x2), .second] [(.int (1 : Int32)), (.ref ar)])) _
  refine XS.iconst X0.here hx rfl (hb hby d4_50) ?_
  show Steps p.tables e below (T0.setTop (mkF m 51 #[.val (.ref ar), .val (.int (0 : Int32)), .val (.int (4 : Int32)), .val (.int (1 : Int32)), .val (.int (2 : Int32)), .val (.long x2), .second] [(.int (1 : Int32)), (.int (1 : Int32)), (.ref ar)])) _
  refine XS.iadd X0.here hx rfl (hb hby d4_51) rfl ?_
  show Steps p.tables e below (T0.setTop (mkF m 52 #[.val (.ref ar), .val (.int (0 : Int32)), .val (.int (4 : Int32)), .val (.int (1 : Int32)), .val (.int (2 : Int32)), .val (.long x2), .second] [(.int ((1 : Int32) + (1 : Int32))), (.ref ar)])) _
  rw [show ((1 : Int32) + (1 : Int32)) = (2 : Int32) from by decide]
  show Steps p.tables e below (T0.setTop (mkF m 52 #[.val (.ref ar), .val (.int (0 : Int32)), .val (.int (4 : Int32)), .val (.int (1 : Int32)), .val (.int (2 : Int32)), .val (.long x2), .second] [(.int (2 : Int32)), (.ref ar)])) _
  refine XS.aloadN X0.here hx rfl (hb hby d4_52) rfl rfl ?_
  show Steps p.tables e below (T0.setTop (mkF m 53 #[.val (.ref ar), .val (.int (0 : Int32)), .val (.int (4 : Int32)), .val (.int (1 : Int32)), .val (.int (2 : Int32)), .val (.long x2), .second] [(.ref ar), (.int (2 : Int32)), (.ref ar)])) _
  refine XS.iloadN X0.here hx rfl (hb hby d4_53) rfl ?_
  show Steps p.tables e below (T0.setTop (mkF m 54 #[.val (.ref ar), .val (.int (0 : Int32)), .val (.int (4 : Int32)), .val (.int (1 : Int32)), .val (.int (2 : Int32)), .val (.long x2), .second] [(.int (1 : Int32)), (.ref ar), (.int (2 : Int32)), (.ref ar)])) _
  refine X0.laload hx (j := (1 : Int32)) (v := (.long x1)) (by rw [e0]; exact Ar4.1) (State.isArrayOf_alike hZ.alike Ar4.2.1) Ar4.2.2 hin4 hat4 (g := (mkF m 54 #[.val (.ref ar), .val (.int (0 : Int32)), .val (.int (4 : Int32)), .val (.int (1 : Int32)), .val (.int (2 : Int32)), .val (.long x2), .second] [(.int (1 : Int32)), (.ref ar), (.int (2 : Int32)), (.ref ar)])) rfl rfl (hb hby d4_54) _ ?_
  show Steps p.tables e below (T0.setTop (mkF m 55 #[.val (.ref ar), .val (.int (0 : Int32)), .val (.int (4 : Int32)), .val (.int (1 : Int32)), .val (.int (2 : Int32)), .val (.long x2), .second] [(.long x1), (.int (2 : Int32)), (.ref ar)])) _
  refine st5 _ ?_
  show Steps p.tables e below (T5.setTop (mkF m 56 #[.val (.ref ar), .val (.int (0 : Int32)), .val (.int (4 : Int32)), .val (.int (1 : Int32)), .val (.int (2 : Int32)), .val (.long x2), .second] [])) _
  refine XS.goto X5.here hx rfl (pc0 := 56) (pc' := 31) rfl (hb hby d4_56) (by decide) (by decide) ?_
  show Steps p.tables e below (T5.setTop (mkF m 31 #[.val (.ref ar), .val (.int (0 : Int32)), .val (.int (4 : Int32)), .val (.int (1 : Int32)), .val (.int (2 : Int32)), .val (.long x2), .second] [])) _
  refine XS.iinc X5.here hx rfl (hb hby d4_31) rfl (l' := #[.val (.ref ar), .val (.int (0 : Int32)), .val (.int (4 : Int32)), .val (.int ((1 : Int32) + (-1 : Int32))), .val (.int (2 : Int32)), .val (.long x2), .second]) rfl ?_
  show Steps p.tables e below (T5.setTop (mkF m 34 #[.val (.ref ar), .val (.int (0 : Int32)), .val (.int (4 : Int32)), .val (.int ((1 : Int32) + (-1 : Int32))), .val (.int (2 : Int32)), .val (.long x2), .second] [])) _
  rw [show ((1 : Int32) + (-1 : Int32)) = (0 : Int32) from by decide]
  show Steps p.tables e below (T5.setTop (mkF m 34 #[.val (.ref ar), .val (.int (0 : Int32)), .val (.int (4 : Int32)), .val (.int (0 : Int32)), .val (.int (2 : Int32)), .val (.long x2), .second] [])) _
  refine XS.iloadN X5.here hx rfl (hb hby d4_34) rfl ?_
  show Steps p.tables e below (T5.setTop (mkF m 35 #[.val (.ref ar), .val (.int (0 : Int32)), .val (.int (4 : Int32)), .val (.int (0 : Int32)), .val (.int (2 : Int32)), .val (.long x2), .second] [(.int (0 : Int32))])) _
  refine XS.iloadN X5.here hx rfl (hb hby d4_35) rfl ?_
  show Steps p.tables e below (T5.setTop (mkF m 36 #[.val (.ref ar), .val (.int (0 : Int32)), .val (.int (4 : Int32)), .val (.int (0 : Int32)), .val (.int (2 : Int32)), .val (.long x2), .second] [(.int (0 : Int32)), (.int (0 : Int32))])) _
  refine XS.icmpNo X5.here hx rfl (hb hby d4_36) rfl (flt (by decide : ¬ ((0 : Int32) < (0 : Int32)))).1 ?_
  show Steps p.tables e below (T5.setTop (mkF m 39 #[.val (.ref ar), .val (.int (0 : Int32)), .val (.int (4 : Int32)), .val (.int (0 : Int32)), .val (.int (2 : Int32)), .val (.long x2), .second] [])) _
  refine XS.lload X5.here hx rfl (hb hby d4_39) rfl ?_
  show Steps p.tables e below (T5.setTop (mkF m 41 #[.val (.ref ar), .val (.int (0 : Int32)), .val (.int (4 : Int32)), .val (.int (0 : Int32)), .val (.int (2 : Int32)), .val (.long x2), .second] [(.long x2)])) _
  refine XS.aloadN X5.here hx rfl (hb hby d4_41) rfl rfl ?_
  show Steps p.tables e below (T5.setTop (mkF m 42 #[.val (.ref ar), .val (.int (0 : Int32)), .val (.int (4 : Int32)), .val (.int (0 : Int32)), .val (.int (2 : Int32)), .val (.long x2), .second] [(.ref ar), (.long x2)])) _
  refine XS.iloadN X5.here hx rfl (hb hby d4_42) rfl ?_
  show Steps p.tables e below (T5.setTop (mkF m 43 #[.val (.ref ar), .val (.int (0 : Int32)), .val (.int (4 : Int32)), .val (.int (0 : Int32)), .val (.int (2 : Int32)), .val (.long x2), .second] [(.int (0 : Int32)), (.ref ar), (.long x2)])) _
  refine X5.laload hx (j := (0 : Int32)) (v := (.long x0)) (by rw [e5]; exact Ar6.1) (State.isArrayOf_alike hZ.alike Ar6.2.1) Ar6.2.2 hin6 hat6 (g := (mkF m 43 #[.val (.ref ar), .val (.int (0 : Int32)), .val (.int (4 : Int32)), .val (.int (0 : Int32)), .val (.int (2 : Int32)), .val (.long x2), .second] [(.int (0 : Int32)), (.ref ar), (.long x2)])) rfl rfl (hb hby d4_43) _ ?_
  show Steps p.tables e below (T5.setTop (mkF m 44 #[.val (.ref ar), .val (.int (0 : Int32)), .val (.int (4 : Int32)), .val (.int (0 : Int32)), .val (.int (2 : Int32)), .val (.long x2), .second] [(.long x0), (.long x2)])) _
  refine XS.lcmp X5.here hx rfl (hb hby d4_44) rfl ?_
  show Steps p.tables e below (T5.setTop (mkF m 45 #[.val (.ref ar), .val (.int (0 : Int32)), .val (.int (4 : Int32)), .val (.int (0 : Int32)), .val (.int (2 : Int32)), .val (.long x2), .second] [(.int (lcmpW x2 x0))])) _
  refine XS.ifYes X5.here hx rfl (pc0 := 45) (pc' := 59) rfl (hb hby d4_45) rfl ((if0 _ _).trans (flt hc45_2).2.1) (by decide) (by decide) ?_
  show Steps p.tables e below (T5.setTop (mkF m 59 #[.val (.ref ar), .val (.int (0 : Int32)), .val (.int (4 : Int32)), .val (.int (0 : Int32)), .val (.int (2 : Int32)), .val (.long x2), .second] [])) _
  refine XS.aloadN X5.here hx rfl (hb hby d4_59) rfl rfl ?_
  show Steps p.tables e below (T5.setTop (mkF m 60 #[.val (.ref ar), .val (.int (0 : Int32)), .val (.int (4 : Int32)), .val (.int (0 : Int32)), .val (.int (2 : Int32)), .val (.long x2), .second] [(.ref ar)])) _
  refine XS.iloadN X5.here hx rfl (hb hby d4_60) rfl ?_
  show Steps p.tables e below (T5.setTop (mkF m 61 #[.val (.ref ar), .val (.int (0 : Int32)), .val (.int (4 : Int32)), .val (.int (0 : Int32)), .val (.int (2 : Int32)), .val (.long x2), .second] [(.int (0 : Int32)), (.ref ar)])) _
  refine XS.iconst X5.here hx rfl (hb hby d4_61) ?_
  show Steps p.tables e below (T5.setTop (mkF m 62 #[.val (.ref ar), .val (.int (0 : Int32)), .val (.int (4 : Int32)), .val (.int (0 : Int32)), .val (.int (2 : Int32)), .val (.long x2), .second] [(.int (1 : Int32)), (.int (0 : Int32)), (.ref ar)])) _
  refine XS.iadd X5.here hx rfl (hb hby d4_62) rfl ?_
  show Steps p.tables e below (T5.setTop (mkF m 63 #[.val (.ref ar), .val (.int (0 : Int32)), .val (.int (4 : Int32)), .val (.int (0 : Int32)), .val (.int (2 : Int32)), .val (.long x2), .second] [(.int ((0 : Int32) + (1 : Int32))), (.ref ar)])) _
  rw [show ((0 : Int32) + (1 : Int32)) = (1 : Int32) from by decide]
  show Steps p.tables e below (T5.setTop (mkF m 63 #[.val (.ref ar), .val (.int (0 : Int32)), .val (.int (4 : Int32)), .val (.int (0 : Int32)), .val (.int (2 : Int32)), .val (.long x2), .second] [(.int (1 : Int32)), (.ref ar)])) _
  refine XS.lload X5.here hx rfl (hb hby d4_63) rfl ?_
  show Steps p.tables e below (T5.setTop (mkF m 65 #[.val (.ref ar), .val (.int (0 : Int32)), .val (.int (4 : Int32)), .val (.int (0 : Int32)), .val (.int (2 : Int32)), .val (.long x2), .second] [(.long x2), (.int (1 : Int32)), (.ref ar)])) _
  refine st7 _ ?_
  show Steps p.tables e below (T7.setTop (mkF m 66 #[.val (.ref ar), .val (.int (0 : Int32)), .val (.int (4 : Int32)), .val (.int (0 : Int32)), .val (.int (2 : Int32)), .val (.long x2), .second] [])) _
  refine XS.goto X7.here hx rfl (pc0 := 66) (pc' := 3) rfl (hb hby d4_66) (by decide) (by decide) ?_
  exact kt
set_option maxRecDepth 65536 in
set_option maxHeartbeats 40000000 in
theorem tn4_2_2 {p : Program} {l : Launch} {e : Env} {R : Room} {s : State} {m : MethodId} {args : Array Value} {below : List Frame} {meth : Method} {c : Code} {T0 : State} {locs : List Loc} {cells slots : Nat} {Z : State} {a0 : Array Value} {h0 : Heap} {n0 : Nat} (ka : ClassId) (x0 : Int64) (x1 : Int64) (x2 : Int64) (x3 : Int64) (ar : Addr) (j0 : Int32) (v0 : Int64)
    (X0 : Stand p l e R s m args below meth c T0 locs cells slots) (hx : p.tables.exec = Jvm.exec) (hZ : Z.Warmed39 s.vm) (hw : ∀ d ∈ tables_1, d.before a0 Z = true) (hby : c.code = jdk_2529_method_15_code) (hml : c.maxLocals = 7) (hown : s.vm.findClass "java/util/DualPivotQuicksort" = some m.cls) (e0 : T0.heap = h0) (N0 : Fr n0 locs) (Z0 : n0 ≤ h0.size) (V_ar : Arv Z h0 ar ka .long (4 : Int32) [(.long x0), (.long x1), (.long x2), (.long x3)] (.long (0 : Int64))) (hc28 : (lcmpW x2 x1) < (0 : Int32)) (g_ar : n0 ≤ ar) (hc45_2 : (lcmpW x2 x0) < (0 : Int32)) :
    ∃ (T' : State) (h' : Heap) (locs' : List Loc), Stand p l e R s m args below meth c T' locs' cells slots ∧ T'.heap = h' ∧ Fr n0 locs' ∧ Keep h0 h' [ar] ∧ Arv Z h' ar ka .long (4 : Int32) [(.long x2), (.long x0), (.long x1), (.long x3)] (.long (0 : Int64)) ∧ ∀ target, Steps p.tables e below (T'.setTop (mkF m 3 #[.val (.ref ar), .val (.int (0 : Int32)), .val (.int (4 : Int32)), .val (.int (-1 : Int32)), .val (.int (2 : Int32)), .val (.long x2), .second] [])) target → Steps p.tables e below (T0.setTop (mkF m 3 #[.val (.ref ar), .val (.int (0 : Int32)), .val (.int (4 : Int32)), .val (.int j0), .val (.int (1 : Int32)), .val (.long v0), .second] [])) target := by
  have Vc1 := V_ar
  obtain ⟨cl1, Ar1, q1, S1, M1, H1, G1⟩ := Vc1
  have hin1 : ¬ ((2 : Int32) < 0 ∨ cl1.slots.size ≤ ((2 : Int32)).toNatClampNeg) := inb_of S1 ⟨by decide, by decide⟩
  have hat1 : cl1.slots[((2 : Int32)).toNatClampNeg]? = some (.long x2) := Has.at H1 hin1 rfl
  have Vc2 := V_ar
  obtain ⟨cl2, Ar2, q2, S2, M2, H2, G2⟩ := Vc2
  have hin2 : ¬ ((1 : Int32) < 0 ∨ cl2.slots.size ≤ ((1 : Int32)).toNatClampNeg) := inb_of S2 ⟨by decide, by decide⟩
  have hat2 : cl2.slots[((1 : Int32)).toNatClampNeg]? = some (.long x1) := Has.at H2 hin2 rfl
  have Vc3 := V_ar
  obtain ⟨cl3, Ar3, q3, S3, M3, H3, G3⟩ := Vc3
  have hin3 : ¬ ((1 : Int32) < 0 ∨ cl3.slots.size ≤ ((1 : Int32)).toNatClampNeg) := inb_of S3 ⟨by decide, by decide⟩
  have hat3 : cl3.slots[((1 : Int32)).toNatClampNeg]? = some (.long x1) := Has.at H3 hin3 rfl
  have Vc4 := V_ar
  obtain ⟨cl4, Ar4, q4, S4, M4, H4, G4⟩ := Vc4
  have hin4 : ¬ ((1 : Int32) < 0 ∨ cl4.slots.size ≤ ((1 : Int32)).toNatClampNeg) := inb_of S4 ⟨by decide, by decide⟩
  have hat4 : cl4.slots[((1 : Int32)).toNatClampNeg]? = some (.long x1) := Has.at H4 hin4 rfl
  have Vc5 := V_ar
  obtain ⟨cl5, Ar5, q5, S5, M5, H5, G5⟩ := Vc5
  have hin5 : ¬ ((2 : Int32) < 0 ∨ cl5.slots.size ≤ ((2 : Int32)).toNatClampNeg) := inb_of S5 ⟨by decide, by decide⟩
  obtain ⟨T5, h5, X5, e5, W5, st5⟩ := stJ X0 hx hZ e0 Ar5 (j := (2 : Int32)) hin5 (g := (mkF m 55 #[.val (.ref ar), .val (.int (0 : Int32)), .val (.int (4 : Int32)), .val (.int (1 : Int32)), .val (.int (2 : Int32)), .val (.long x2), .second] [(.long x1), (.int (2 : Int32)), (.ref ar)])) rfl rfl (hb hby d4_55)
  have V5 : Arv Z h5 ar ka .long (4 : Int32) [(.long x0), (.long x1), (.long x1), (.long x3)] (.long (0 : Int64)) := Arv.set Ar5 q5 S5 M5 H5 G5 rfl W5 2 rfl (Nat.le_of_ble_eq_true rfl)
  have N5 := Fr.snoc X5 N0 g_ar
  have Vc6 := V5
  obtain ⟨cl6, Ar6, q6, S6, M6, H6, G6⟩ := Vc6
  have hin6 : ¬ ((0 : Int32) < 0 ∨ cl6.slots.size ≤ ((0 : Int32)).toNatClampNeg) := inb_of S6 ⟨by decide, by decide⟩
  have hat6 : cl6.slots[((0 : Int32)).toNatClampNeg]? = some (.long x0) := Has.at H6 hin6 rfl
  have Vc7 := V5
  obtain ⟨cl7, Ar7, q7, S7, M7, H7, G7⟩ := Vc7
  have hin7 : ¬ ((0 : Int32) < 0 ∨ cl7.slots.size ≤ ((0 : Int32)).toNatClampNeg) := inb_of S7 ⟨by decide, by decide⟩
  have hat7 : cl7.slots[((0 : Int32)).toNatClampNeg]? = some (.long x0) := Has.at H7 hin7 rfl
  have Vc8 := V5
  obtain ⟨cl8, Ar8, q8, S8, M8, H8, G8⟩ := Vc8
  have hin8 : ¬ ((1 : Int32) < 0 ∨ cl8.slots.size ≤ ((1 : Int32)).toNatClampNeg) := inb_of S8 ⟨by decide, by decide⟩
  obtain ⟨T8, h8, X8, e8, W8, st8⟩ := stJ X5 hx hZ e5 Ar8 (j := (1 : Int32)) hin8 (g := (mkF m 55 #[.val (.ref ar), .val (.int (0 : Int32)), .val (.int (4 : Int32)), .val (.int (0 : Int32)), .val (.int (2 : Int32)), .val (.long x2), .second] [(.long x0), (.int (1 : Int32)), (.ref ar)])) rfl rfl (hb hby d4_55)
  have V8 : Arv Z h8 ar ka .long (4 : Int32) [(.long x0), (.long x0), (.long x1), (.long x3)] (.long (0 : Int64)) := Arv.set Ar8 q8 S8 M8 H8 G8 rfl W8 1 rfl (Nat.le_of_ble_eq_true rfl)
  have N8 := Fr.snoc X8 N5 g_ar
  have Vc9 := V8
  obtain ⟨cl9, Ar9, q9, S9, M9, H9, G9⟩ := Vc9
  have hin9 : ¬ ((0 : Int32) < 0 ∨ cl9.slots.size ≤ ((0 : Int32)).toNatClampNeg) := inb_of S9 ⟨by decide, by decide⟩
  obtain ⟨T9, h9, X9, e9, W9, st9⟩ := stJ X8 hx hZ e8 Ar9 (j := (0 : Int32)) hin9 (g := (mkF m 65 #[.val (.ref ar), .val (.int (0 : Int32)), .val (.int (4 : Int32)), .val (.int (-1 : Int32)), .val (.int (2 : Int32)), .val (.long x2), .second] [(.long x2), (.int (0 : Int32)), (.ref ar)])) rfl rfl (hb hby d4_65)
  have V9 : Arv Z h9 ar ka .long (4 : Int32) [(.long x2), (.long x0), (.long x1), (.long x3)] (.long (0 : Int64)) := Arv.set Ar9 q9 S9 M9 H9 G9 rfl W9 0 rfl (Nat.le_of_ble_eq_true rfl)
  have N9 := Fr.snoc X9 N8 g_ar
  refine ⟨T9, h9, _, X9, e9, N9, ((((Keep.refl h0 [ar]).wr W5 (Or.inl (List.mem_of_getElem? (i := 0) rfl))).wr W8 (Or.inl (List.mem_of_getElem? (i := 0) rfl))).wr W9 (Or.inl (List.mem_of_getElem? (i := 0) rfl))), V9, fun target kt => ?_⟩
  show Steps p.tables e below (T0.setTop (mkF m 3 #[.val (.ref ar), .val (.int (0 : Int32)), .val (.int (4 : Int32)), .val (.int j0), .val (.int (1 : Int32)), .val (.long v0), .second] [])) _
  refine XS.iinc X0.here hx rfl (hb hby d4_3) rfl (l' := #[.val (.ref ar), .val (.int (0 : Int32)), .val (.int (4 : Int32)), .val (.int j0), .val (.int ((1 : Int32) + (1 : Int32))), .val (.long v0), .second]) rfl ?_
  show Steps p.tables e below (T0.setTop (mkF m 6 #[.val (.ref ar), .val (.int (0 : Int32)), .val (.int (4 : Int32)), .val (.int j0), .val (.int ((1 : Int32) + (1 : Int32))), .val (.long v0), .second] [])) _
  rw [show ((1 : Int32) + (1 : Int32)) = (2 : Int32) from by decide]
  show Steps p.tables e below (T0.setTop (mkF m 6 #[.val (.ref ar), .val (.int (0 : Int32)), .val (.int (4 : Int32)), .val (.int j0), .val (.int (2 : Int32)), .val (.long v0), .second] [])) _
  refine XS.iload X0.here hx rfl (hb hby d4_6) rfl ?_
  show Steps p.tables e below (T0.setTop (mkF m 8 #[.val (.ref ar), .val (.int (0 : Int32)), .val (.int (4 : Int32)), .val (.int j0), .val (.int (2 : Int32)), .val (.long v0), .second] [(.int (2 : Int32))])) _
  refine XS.iloadN X0.here hx rfl (hb hby d4_8) rfl ?_
  show Steps p.tables e below (T0.setTop (mkF m 9 #[.val (.ref ar), .val (.int (0 : Int32)), .val (.int (4 : Int32)), .val (.int j0), .val (.int (2 : Int32)), .val (.long v0), .second] [(.int (4 : Int32)), (.int (2 : Int32))])) _
  refine XS.icmpNo X0.here hx rfl (hb hby d4_9) rfl (tlt (by decide : (2 : Int32) < (4 : Int32))).2.1 ?_
  show Steps p.tables e below (T0.setTop (mkF m 12 #[.val (.ref ar), .val (.int (0 : Int32)), .val (.int (4 : Int32)), .val (.int j0), .val (.int (2 : Int32)), .val (.long v0), .second] [])) _
  refine XS.aloadN X0.here hx rfl (hb hby d4_12) rfl rfl ?_
  show Steps p.tables e below (T0.setTop (mkF m 13 #[.val (.ref ar), .val (.int (0 : Int32)), .val (.int (4 : Int32)), .val (.int j0), .val (.int (2 : Int32)), .val (.long v0), .second] [(.ref ar)])) _
  refine XS.iload X0.here hx rfl (hb hby d4_13) rfl ?_
  show Steps p.tables e below (T0.setTop (mkF m 15 #[.val (.ref ar), .val (.int (0 : Int32)), .val (.int (4 : Int32)), .val (.int j0), .val (.int (2 : Int32)), .val (.long v0), .second] [(.int (2 : Int32)), (.ref ar)])) _
  refine XS.dup X0.here hx rfl (hb hby d4_15) rfl rfl ?_
  show Steps p.tables e below (T0.setTop (mkF m 16 #[.val (.ref ar), .val (.int (0 : Int32)), .val (.int (4 : Int32)), .val (.int j0), .val (.int (2 : Int32)), .val (.long v0), .second] [(.int (2 : Int32)), (.int (2 : Int32)), (.ref ar)])) _
  refine XS.istoreN X0.here hx rfl (hb hby d4_16) rfl (l' := #[.val (.ref ar), .val (.int (0 : Int32)), .val (.int (4 : Int32)), .val (.int (2 : Int32)), .val (.int (2 : Int32)), .val (.long v0), .second]) rfl ?_
  show Steps p.tables e below (T0.setTop (mkF m 17 #[.val (.ref ar), .val (.int (0 : Int32)), .val (.int (4 : Int32)), .val (.int (2 : Int32)), .val (.int (2 : Int32)), .val (.long v0), .second] [(.int (2 : Int32)), (.ref ar)])) _
  refine X0.laload hx (j := (2 : Int32)) (v := (.long x2)) (by rw [e0]; exact Ar1.1) (State.isArrayOf_alike hZ.alike Ar1.2.1) Ar1.2.2 hin1 hat1 (g := (mkF m 17 #[.val (.ref ar), .val (.int (0 : Int32)), .val (.int (4 : Int32)), .val (.int (2 : Int32)), .val (.int (2 : Int32)), .val (.long v0), .second] [(.int (2 : Int32)), (.ref ar)])) rfl rfl (hb hby d4_17) _ ?_
  show Steps p.tables e below (T0.setTop (mkF m 18 #[.val (.ref ar), .val (.int (0 : Int32)), .val (.int (4 : Int32)), .val (.int (2 : Int32)), .val (.int (2 : Int32)), .val (.long v0), .second] [(.long x2)])) _
  refine XS.lstore X0.here hx rfl (hb hby d4_18) rfl (l' := #[.val (.ref ar), .val (.int (0 : Int32)), .val (.int (4 : Int32)), .val (.int (2 : Int32)), .val (.int (2 : Int32)), .val (.long x2), .second]) rfl ?_
  show Steps p.tables e below (T0.setTop (mkF m 20 #[.val (.ref ar), .val (.int (0 : Int32)), .val (.int (4 : Int32)), .val (.int (2 : Int32)), .val (.int (2 : Int32)), .val (.long x2), .second] [])) _
  refine XS.lload X0.here hx rfl (hb hby d4_20) rfl ?_
  show Steps p.tables e below (T0.setTop (mkF m 22 #[.val (.ref ar), .val (.int (0 : Int32)), .val (.int (4 : Int32)), .val (.int (2 : Int32)), .val (.int (2 : Int32)), .val (.long x2), .second] [(.long x2)])) _
  refine XS.aloadN X0.here hx rfl (hb hby d4_22) rfl rfl ?_
  show Steps p.tables e below (T0.setTop (mkF m 23 #[.val (.ref ar), .val (.int (0 : Int32)), .val (.int (4 : Int32)), .val (.int (2 : Int32)), .val (.int (2 : Int32)), .val (.long x2), .second] [(.ref ar), (.long x2)])) _
  refine XS.iloadN X0.here hx rfl (hb hby d4_23) rfl ?_
  show Steps p.tables e below (T0.setTop (mkF m 24 #[.val (.ref ar), .val (.int (0 : Int32)), .val (.int (4 : Int32)), .val (.int (2 : Int32)), .val (.int (2 : Int32)), .val (.long x2), .second] [(.int (2 : Int32)), (.ref ar), (.long x2)])) _
  refine XS.iconst X0.here hx rfl (hb hby d4_24) ?_
  show Steps p.tables e below (T0.setTop (mkF m 25 #[.val (.ref ar), .val (.int (0 : Int32)), .val (.int (4 : Int32)), .val (.int (2 : Int32)), .val (.int (2 : Int32)), .val (.long x2), .second] [(.int (1 : Int32)), (.int (2 : Int32)), (.ref ar), (.long x2)])) _
  refine XS.isub X0.here hx rfl (hb hby d4_25) rfl ?_
  show Steps p.tables e below (T0.setTop (mkF m 26 #[.val (.ref ar), .val (.int (0 : Int32)), .val (.int (4 : Int32)), .val (.int (2 : Int32)), .val (.int (2 : Int32)), .val (.long x2), .second] [(.int ((2 : Int32) - (1 : Int32))), (.ref ar), (.long x2)])) _
  rw [show ((2 : Int32) - (1 : Int32)) = (1 : Int32) from by decide]
  show Steps p.tables e below (T0.setTop (mkF m 26 #[.val (.ref ar), .val (.int (0 : Int32)), .val (.int (4 : Int32)), .val (.int (2 : Int32)), .val (.int (2 : Int32)), .val (.long x2), .second] [(.int (1 : Int32)), (.ref ar), (.long x2)])) _
  refine X0.laload hx (j := (1 : Int32)) (v := (.long x1)) (by rw [e0]; exact Ar2.1) (State.isArrayOf_alike hZ.alike Ar2.2.1) Ar2.2.2 hin2 hat2 (g := (mkF m 26 #[.val (.ref ar), .val (.int (0 : Int32)), .val (.int (4 : Int32)), .val (.int (2 : Int32)), .val (.int (2 : Int32)), .val (.long x2), .second] [(.int (1 : Int32)), (.ref ar), (.long x2)])) rfl rfl (hb hby d4_26) _ ?_
  show Steps p.tables e below (T0.setTop (mkF m 27 #[.val (.ref ar), .val (.int (0 : Int32)), .val (.int (4 : Int32)), .val (.int (2 : Int32)), .val (.int (2 : Int32)), .val (.long x2), .second] [(.long x1), (.long x2)])) _
  refine XS.lcmp X0.here hx rfl (hb hby d4_27) rfl ?_
  show Steps p.tables e below (T0.setTop (mkF m 28 #[.val (.ref ar), .val (.int (0 : Int32)), .val (.int (4 : Int32)), .val (.int (2 : Int32)), .val (.int (2 : Int32)), .val (.long x2), .second] [(.int (lcmpW x2 x1))])) _
  refine XS.ifNo X0.here hx rfl (hb hby d4_28) rfl ((if0 _ _).trans (tlt hc28).2.1) ?_
  show Steps p.tables e below (T0.setTop (mkF m 31 #[.val (.ref ar), .val (.int (0 : Int32)), .val (.int (4 : Int32)), .val (.int (2 : Int32)), .val (.int (2 : Int32)), .val (.long x2), .second] [])) _
  refine XS.iinc X0.here hx rfl (hb hby d4_31) rfl (l' := #[.val (.ref ar), .val (.int (0 : Int32)), .val (.int (4 : Int32)), .val (.int ((2 : Int32) + (-1 : Int32))), .val (.int (2 : Int32)), .val (.long x2), .second]) rfl ?_
  show Steps p.tables e below (T0.setTop (mkF m 34 #[.val (.ref ar), .val (.int (0 : Int32)), .val (.int (4 : Int32)), .val (.int ((2 : Int32) + (-1 : Int32))), .val (.int (2 : Int32)), .val (.long x2), .second] [])) _
  rw [show ((2 : Int32) + (-1 : Int32)) = (1 : Int32) from by decide]
  show Steps p.tables e below (T0.setTop (mkF m 34 #[.val (.ref ar), .val (.int (0 : Int32)), .val (.int (4 : Int32)), .val (.int (1 : Int32)), .val (.int (2 : Int32)), .val (.long x2), .second] [])) _
  refine XS.iloadN X0.here hx rfl (hb hby d4_34) rfl ?_
  show Steps p.tables e below (T0.setTop (mkF m 35 #[.val (.ref ar), .val (.int (0 : Int32)), .val (.int (4 : Int32)), .val (.int (1 : Int32)), .val (.int (2 : Int32)), .val (.long x2), .second] [(.int (1 : Int32))])) _
  refine XS.iloadN X0.here hx rfl (hb hby d4_35) rfl ?_
  show Steps p.tables e below (T0.setTop (mkF m 36 #[.val (.ref ar), .val (.int (0 : Int32)), .val (.int (4 : Int32)), .val (.int (1 : Int32)), .val (.int (2 : Int32)), .val (.long x2), .second] [(.int (0 : Int32)), (.int (1 : Int32))])) _
  refine XS.icmpNo X0.here hx rfl (hb hby d4_36) rfl (flt (by decide : ¬ ((1 : Int32) < (0 : Int32)))).1 ?_
  show Steps p.tables e below (T0.setTop (mkF m 39 #[.val (.ref ar), .val (.int (0 : Int32)), .val (.int (4 : Int32)), .val (.int (1 : Int32)), .val (.int (2 : Int32)), .val (.long x2), .second] [])) _
  refine XS.lload X0.here hx rfl (hb hby d4_39) rfl ?_
  show Steps p.tables e below (T0.setTop (mkF m 41 #[.val (.ref ar), .val (.int (0 : Int32)), .val (.int (4 : Int32)), .val (.int (1 : Int32)), .val (.int (2 : Int32)), .val (.long x2), .second] [(.long x2)])) _
  refine XS.aloadN X0.here hx rfl (hb hby d4_41) rfl rfl ?_
  show Steps p.tables e below (T0.setTop (mkF m 42 #[.val (.ref ar), .val (.int (0 : Int32)), .val (.int (4 : Int32)), .val (.int (1 : Int32)), .val (.int (2 : Int32)), .val (.long x2), .second] [(.ref ar), (.long x2)])) _
  refine XS.iloadN X0.here hx rfl (hb hby d4_42) rfl ?_
  show Steps p.tables e below (T0.setTop (mkF m 43 #[.val (.ref ar), .val (.int (0 : Int32)), .val (.int (4 : Int32)), .val (.int (1 : Int32)), .val (.int (2 : Int32)), .val (.long x2), .second] [(.int (1 : Int32)), (.ref ar), (.long x2)])) _
  refine X0.laload hx (j := (1 : Int32)) (v := (.long x1)) (by rw [e0]; exact Ar3.1) (State.isArrayOf_alike hZ.alike Ar3.2.1) Ar3.2.2 hin3 hat3 (g := (mkF m 43 #[.val (.ref ar), .val (.int (0 : Int32)), .val (.int (4 : Int32)), .val (.int (1 : Int32)), .val (.int (2 : Int32)), .val (.long x2), .second] [(.int (1 : Int32)), (.ref ar), (.long x2)])) rfl rfl (hb hby d4_43) _ ?_
  show Steps p.tables e below (T0.setTop (mkF m 44 #[.val (.ref ar), .val (.int (0 : Int32)), .val (.int (4 : Int32)), .val (.int (1 : Int32)), .val (.int (2 : Int32)), .val (.long x2), .second] [(.long x1), (.long x2)])) _
  refine XS.lcmp X0.here hx rfl (hb hby d4_44) rfl ?_
  show Steps p.tables e below (T0.setTop (mkF m 45 #[.val (.ref ar), .val (.int (0 : Int32)), .val (.int (4 : Int32)), .val (.int (1 : Int32)), .val (.int (2 : Int32)), .val (.long x2), .second] [(.int (lcmpW x2 x1))])) _
  refine XS.ifNo X0.here hx rfl (hb hby d4_45) rfl ((if0 _ _).trans (tlt hc28).2.1) ?_
  show Steps p.tables e below (T0.setTop (mkF m 48 #[.val (.ref ar), .val (.int (0 : Int32)), .val (.int (4 : Int32)), .val (.int (1 : Int32)), .val (.int (2 : Int32)), .val (.long x2), .second] [])) _
  refine XS.aloadN X0.here hx rfl (hb hby d4_48) rfl rfl ?_
  show Steps p.tables e below (T0.setTop (mkF m 49 #[.val (.ref ar), .val (.int (0 : Int32)), .val (.int (4 : Int32)), .val (.int (1 : Int32)), .val (.int (2 : Int32)), .val (.long x2), .second] [(.ref ar)])) _
  refine XS.iloadN X0.here hx rfl (hb hby d4_49) rfl ?_
  show Steps p.tables e below (T0.setTop (mkF m 50 #[.val (.ref ar), .val (.int (0 : Int32)), .val (.int (4 : Int32)), .val (.int (1 : Int32)), .val (.int (2 : Int32)), .val (.long x2), .second] [(.int (1 : Int32)), (.ref ar)])) _
  refine XS.iconst X0.here hx rfl (hb hby d4_50) ?_
  show Steps p.tables e below (T0.setTop (mkF m 51 #[.val (.ref ar), .val (.int (0 : Int32)), .val (.int (4 : Int32)), .val (.int (1 : Int32)), .val (.int (2 : Int32)), .val (.long x2), .second] [(.int (1 : Int32)), (.int (1 : Int32)), (.ref ar)])) _
  refine XS.iadd X0.here hx rfl (hb hby d4_51) rfl ?_
  show Steps p.tables e below (T0.setTop (mkF m 52 #[.val (.ref ar), .val (.int (0 : Int32)), .val (.int (4 : Int32)), .val (.int (1 : Int32)), .val (.int (2 : Int32)), .val (.long x2), .second] [(.int ((1 : Int32) + (1 : Int32))), (.ref ar)])) _
  rw [show ((1 : Int32) + (1 : Int32)) = (2 : Int32) from by decide]
  show Steps p.tables e below (T0.setTop (mkF m 52 #[.val (.ref ar), .val (.int (0 : Int32)), .val (.int (4 : Int32)), .val (.int (1 : Int32)), .val (.int (2 : Int32)), .val (.long x2), .second] [(.int (2 : Int32)), (.ref ar)])) _
  refine XS.aloadN X0.here hx rfl (hb hby d4_52) rfl rfl ?_
  show Steps p.tables e below (T0.setTop (mkF m 53 #[.val (.ref ar), .val (.int (0 : Int32)), .val (.int (4 : Int32)), .val (.int (1 : Int32)), .val (.int (2 : Int32)), .val (.long x2), .second] [(.ref ar), (.int (2 : Int32)), (.ref ar)])) _
  refine XS.iloadN X0.here hx rfl (hb hby d4_53) rfl ?_
  show Steps p.tables e below (T0.setTop (mkF m 54 #[.val (.ref ar), .val (.int (0 : Int32)), .val (.int (4 : Int32)), .val (.int (1 : Int32)), .val (.int (2 : Int32)), .val (.long x2), .second] [(.int (1 : Int32)), (.ref ar), (.int (2 : Int32)), (.ref ar)])) _
  refine X0.laload hx (j := (1 : Int32)) (v := (.long x1)) (by rw [e0]; exact Ar4.1) (State.isArrayOf_alike hZ.alike Ar4.2.1) Ar4.2.2 hin4 hat4 (g := (mkF m 54 #[.val (.ref ar), .val (.int (0 : Int32)), .val (.int (4 : Int32)), .val (.int (1 : Int32)), .val (.int (2 : Int32)), .val (.long x2), .second] [(.int (1 : Int32)), (.ref ar), (.int (2 : Int32)), (.ref ar)])) rfl rfl (hb hby d4_54) _ ?_
  show Steps p.tables e below (T0.setTop (mkF m 55 #[.val (.ref ar), .val (.int (0 : Int32)), .val (.int (4 : Int32)), .val (.int (1 : Int32)), .val (.int (2 : Int32)), .val (.long x2), .second] [(.long x1), (.int (2 : Int32)), (.ref ar)])) _
  refine st5 _ ?_
  show Steps p.tables e below (T5.setTop (mkF m 56 #[.val (.ref ar), .val (.int (0 : Int32)), .val (.int (4 : Int32)), .val (.int (1 : Int32)), .val (.int (2 : Int32)), .val (.long x2), .second] [])) _
  refine XS.goto X5.here hx rfl (pc0 := 56) (pc' := 31) rfl (hb hby d4_56) (by decide) (by decide) ?_
  show Steps p.tables e below (T5.setTop (mkF m 31 #[.val (.ref ar), .val (.int (0 : Int32)), .val (.int (4 : Int32)), .val (.int (1 : Int32)), .val (.int (2 : Int32)), .val (.long x2), .second] [])) _
  refine XS.iinc X5.here hx rfl (hb hby d4_31) rfl (l' := #[.val (.ref ar), .val (.int (0 : Int32)), .val (.int (4 : Int32)), .val (.int ((1 : Int32) + (-1 : Int32))), .val (.int (2 : Int32)), .val (.long x2), .second]) rfl ?_
  show Steps p.tables e below (T5.setTop (mkF m 34 #[.val (.ref ar), .val (.int (0 : Int32)), .val (.int (4 : Int32)), .val (.int ((1 : Int32) + (-1 : Int32))), .val (.int (2 : Int32)), .val (.long x2), .second] [])) _
  rw [show ((1 : Int32) + (-1 : Int32)) = (0 : Int32) from by decide]
  show Steps p.tables e below (T5.setTop (mkF m 34 #[.val (.ref ar), .val (.int (0 : Int32)), .val (.int (4 : Int32)), .val (.int (0 : Int32)), .val (.int (2 : Int32)), .val (.long x2), .second] [])) _
  refine XS.iloadN X5.here hx rfl (hb hby d4_34) rfl ?_
  show Steps p.tables e below (T5.setTop (mkF m 35 #[.val (.ref ar), .val (.int (0 : Int32)), .val (.int (4 : Int32)), .val (.int (0 : Int32)), .val (.int (2 : Int32)), .val (.long x2), .second] [(.int (0 : Int32))])) _
  refine XS.iloadN X5.here hx rfl (hb hby d4_35) rfl ?_
  show Steps p.tables e below (T5.setTop (mkF m 36 #[.val (.ref ar), .val (.int (0 : Int32)), .val (.int (4 : Int32)), .val (.int (0 : Int32)), .val (.int (2 : Int32)), .val (.long x2), .second] [(.int (0 : Int32)), (.int (0 : Int32))])) _
  refine XS.icmpNo X5.here hx rfl (hb hby d4_36) rfl (flt (by decide : ¬ ((0 : Int32) < (0 : Int32)))).1 ?_
  show Steps p.tables e below (T5.setTop (mkF m 39 #[.val (.ref ar), .val (.int (0 : Int32)), .val (.int (4 : Int32)), .val (.int (0 : Int32)), .val (.int (2 : Int32)), .val (.long x2), .second] [])) _
  refine XS.lload X5.here hx rfl (hb hby d4_39) rfl ?_
  show Steps p.tables e below (T5.setTop (mkF m 41 #[.val (.ref ar), .val (.int (0 : Int32)), .val (.int (4 : Int32)), .val (.int (0 : Int32)), .val (.int (2 : Int32)), .val (.long x2), .second] [(.long x2)])) _
  refine XS.aloadN X5.here hx rfl (hb hby d4_41) rfl rfl ?_
  show Steps p.tables e below (T5.setTop (mkF m 42 #[.val (.ref ar), .val (.int (0 : Int32)), .val (.int (4 : Int32)), .val (.int (0 : Int32)), .val (.int (2 : Int32)), .val (.long x2), .second] [(.ref ar), (.long x2)])) _
  refine XS.iloadN X5.here hx rfl (hb hby d4_42) rfl ?_
  show Steps p.tables e below (T5.setTop (mkF m 43 #[.val (.ref ar), .val (.int (0 : Int32)), .val (.int (4 : Int32)), .val (.int (0 : Int32)), .val (.int (2 : Int32)), .val (.long x2), .second] [(.int (0 : Int32)), (.ref ar), (.long x2)])) _
  refine X5.laload hx (j := (0 : Int32)) (v := (.long x0)) (by rw [e5]; exact Ar6.1) (State.isArrayOf_alike hZ.alike Ar6.2.1) Ar6.2.2 hin6 hat6 (g := (mkF m 43 #[.val (.ref ar), .val (.int (0 : Int32)), .val (.int (4 : Int32)), .val (.int (0 : Int32)), .val (.int (2 : Int32)), .val (.long x2), .second] [(.int (0 : Int32)), (.ref ar), (.long x2)])) rfl rfl (hb hby d4_43) _ ?_
  show Steps p.tables e below (T5.setTop (mkF m 44 #[.val (.ref ar), .val (.int (0 : Int32)), .val (.int (4 : Int32)), .val (.int (0 : Int32)), .val (.int (2 : Int32)), .val (.long x2), .second] [(.long x0), (.long x2)])) _
  refine XS.lcmp X5.here hx rfl (hb hby d4_44) rfl ?_
  show Steps p.tables e below (T5.setTop (mkF m 45 #[.val (.ref ar), .val (.int (0 : Int32)), .val (.int (4 : Int32)), .val (.int (0 : Int32)), .val (.int (2 : Int32)), .val (.long x2), .second] [(.int (lcmpW x2 x0))])) _
  refine XS.ifNo X5.here hx rfl (hb hby d4_45) rfl ((if0 _ _).trans (tlt hc45_2).2.1) ?_
  show Steps p.tables e below (T5.setTop (mkF m 48 #[.val (.ref ar), .val (.int (0 : Int32)), .val (.int (4 : Int32)), .val (.int (0 : Int32)), .val (.int (2 : Int32)), .val (.long x2), .second] [])) _
  refine XS.aloadN X5.here hx rfl (hb hby d4_48) rfl rfl ?_
  show Steps p.tables e below (T5.setTop (mkF m 49 #[.val (.ref ar), .val (.int (0 : Int32)), .val (.int (4 : Int32)), .val (.int (0 : Int32)), .val (.int (2 : Int32)), .val (.long x2), .second] [(.ref ar)])) _
  refine XS.iloadN X5.here hx rfl (hb hby d4_49) rfl ?_
  show Steps p.tables e below (T5.setTop (mkF m 50 #[.val (.ref ar), .val (.int (0 : Int32)), .val (.int (4 : Int32)), .val (.int (0 : Int32)), .val (.int (2 : Int32)), .val (.long x2), .second] [(.int (0 : Int32)), (.ref ar)])) _
  refine XS.iconst X5.here hx rfl (hb hby d4_50) ?_
  show Steps p.tables e below (T5.setTop (mkF m 51 #[.val (.ref ar), .val (.int (0 : Int32)), .val (.int (4 : Int32)), .val (.int (0 : Int32)), .val (.int (2 : Int32)), .val (.long x2), .second] [(.int (1 : Int32)), (.int (0 : Int32)), (.ref ar)])) _
  refine XS.iadd X5.here hx rfl (hb hby d4_51) rfl ?_
  show Steps p.tables e below (T5.setTop (mkF m 52 #[.val (.ref ar), .val (.int (0 : Int32)), .val (.int (4 : Int32)), .val (.int (0 : Int32)), .val (.int (2 : Int32)), .val (.long x2), .second] [(.int ((0 : Int32) + (1 : Int32))), (.ref ar)])) _
  rw [show ((0 : Int32) + (1 : Int32)) = (1 : Int32) from by decide]
  show Steps p.tables e below (T5.setTop (mkF m 52 #[.val (.ref ar), .val (.int (0 : Int32)), .val (.int (4 : Int32)), .val (.int (0 : Int32)), .val (.int (2 : Int32)), .val (.long x2), .second] [(.int (1 : Int32)), (.ref ar)])) _
  refine XS.aloadN X5.here hx rfl (hb hby d4_52) rfl rfl ?_
  show Steps p.tables e below (T5.setTop (mkF m 53 #[.val (.ref ar), .val (.int (0 : Int32)), .val (.int (4 : Int32)), .val (.int (0 : Int32)), .val (.int (2 : Int32)), .val (.long x2), .second] [(.ref ar), (.int (1 : Int32)), (.ref ar)])) _
  refine XS.iloadN X5.here hx rfl (hb hby d4_53) rfl ?_
  show Steps p.tables e below (T5.setTop (mkF m 54 #[.val (.ref ar), .val (.int (0 : Int32)), .val (.int (4 : Int32)), .val (.int (0 : Int32)), .val (.int (2 : Int32)), .val (.long x2), .second] [(.int (0 : Int32)), (.ref ar), (.int (1 : Int32)), (.ref ar)])) _
  refine X5.laload hx (j := (0 : Int32)) (v := (.long x0)) (by rw [e5]; exact Ar7.1) (State.isArrayOf_alike hZ.alike Ar7.2.1) Ar7.2.2 hin7 hat7 (g := (mkF m 54 #[.val (.ref ar), .val (.int (0 : Int32)), .val (.int (4 : Int32)), .val (.int (0 : Int32)), .val (.int (2 : Int32)), .val (.long x2), .second] [(.int (0 : Int32)), (.ref ar), (.int (1 : Int32)), (.ref ar)])) rfl rfl (hb hby d4_54) _ ?_
  show Steps p.tables e below (T5.setTop (mkF m 55 #[.val (.ref ar), .val (.int (0 : Int32)), .val (.int (4 : Int32)), .val (.int (0 : Int32)), .val (.int (2 : Int32)), .val (.long x2), .second] [(.long x0), (.int (1 : Int32)), (.ref ar)])) _
  refine st8 _ ?_
  show Steps p.tables e below (T8.setTop (mkF m 56 #[.val (.ref ar), .val (.int (0 : Int32)), .val (.int (4 : Int32)), .val (.int (0 : Int32)), .val (.int (2 : Int32)), .val (.long x2), .second] [])) _
  refine XS.goto X8.here hx rfl (pc0 := 56) (pc' := 31) rfl (hb hby d4_56) (by decide) (by decide) ?_
  show Steps p.tables e below (T8.setTop (mkF m 31 #[.val (.ref ar), .val (.int (0 : Int32)), .val (.int (4 : Int32)), .val (.int (0 : Int32)), .val (.int (2 : Int32)), .val (.long x2), .second] [])) _
  refine XS.iinc X8.here hx rfl (hb hby d4_31) rfl (l' := #[.val (.ref ar), .val (.int (0 : Int32)), .val (.int (4 : Int32)), .val (.int ((0 : Int32) + (-1 : Int32))), .val (.int (2 : Int32)), .val (.long x2), .second]) rfl ?_
  show Steps p.tables e below (T8.setTop (mkF m 34 #[.val (.ref ar), .val (.int (0 : Int32)), .val (.int (4 : Int32)), .val (.int ((0 : Int32) + (-1 : Int32))), .val (.int (2 : Int32)), .val (.long x2), .second] [])) _
  rw [show ((0 : Int32) + (-1 : Int32)) = (-1 : Int32) from by decide]
  show Steps p.tables e below (T8.setTop (mkF m 34 #[.val (.ref ar), .val (.int (0 : Int32)), .val (.int (4 : Int32)), .val (.int (-1 : Int32)), .val (.int (2 : Int32)), .val (.long x2), .second] [])) _
  refine XS.iloadN X8.here hx rfl (hb hby d4_34) rfl ?_
  show Steps p.tables e below (T8.setTop (mkF m 35 #[.val (.ref ar), .val (.int (0 : Int32)), .val (.int (4 : Int32)), .val (.int (-1 : Int32)), .val (.int (2 : Int32)), .val (.long x2), .second] [(.int (-1 : Int32))])) _
  refine XS.iloadN X8.here hx rfl (hb hby d4_35) rfl ?_
  show Steps p.tables e below (T8.setTop (mkF m 36 #[.val (.ref ar), .val (.int (0 : Int32)), .val (.int (4 : Int32)), .val (.int (-1 : Int32)), .val (.int (2 : Int32)), .val (.long x2), .second] [(.int (0 : Int32)), (.int (-1 : Int32))])) _
  refine XS.icmpYes X8.here hx rfl (pc0 := 36) (pc' := 59) rfl (hb hby d4_36) rfl (tlt (by decide : (-1 : Int32) < (0 : Int32))).1 (by decide) (by decide) ?_
  show Steps p.tables e below (T8.setTop (mkF m 59 #[.val (.ref ar), .val (.int (0 : Int32)), .val (.int (4 : Int32)), .val (.int (-1 : Int32)), .val (.int (2 : Int32)), .val (.long x2), .second] [])) _
  refine XS.aloadN X8.here hx rfl (hb hby d4_59) rfl rfl ?_
  show Steps p.tables e below (T8.setTop (mkF m 60 #[.val (.ref ar), .val (.int (0 : Int32)), .val (.int (4 : Int32)), .val (.int (-1 : Int32)), .val (.int (2 : Int32)), .val (.long x2), .second] [(.ref ar)])) _
  refine XS.iloadN X8.here hx rfl (hb hby d4_60) rfl ?_
  show Steps p.tables e below (T8.setTop (mkF m 61 #[.val (.ref ar), .val (.int (0 : Int32)), .val (.int (4 : Int32)), .val (.int (-1 : Int32)), .val (.int (2 : Int32)), .val (.long x2), .second] [(.int (-1 : Int32)), (.ref ar)])) _
  refine XS.iconst X8.here hx rfl (hb hby d4_61) ?_
  show Steps p.tables e below (T8.setTop (mkF m 62 #[.val (.ref ar), .val (.int (0 : Int32)), .val (.int (4 : Int32)), .val (.int (-1 : Int32)), .val (.int (2 : Int32)), .val (.long x2), .second] [(.int (1 : Int32)), (.int (-1 : Int32)), (.ref ar)])) _
  refine XS.iadd X8.here hx rfl (hb hby d4_62) rfl ?_
  show Steps p.tables e below (T8.setTop (mkF m 63 #[.val (.ref ar), .val (.int (0 : Int32)), .val (.int (4 : Int32)), .val (.int (-1 : Int32)), .val (.int (2 : Int32)), .val (.long x2), .second] [(.int ((-1 : Int32) + (1 : Int32))), (.ref ar)])) _
  rw [show ((-1 : Int32) + (1 : Int32)) = (0 : Int32) from by decide]
  show Steps p.tables e below (T8.setTop (mkF m 63 #[.val (.ref ar), .val (.int (0 : Int32)), .val (.int (4 : Int32)), .val (.int (-1 : Int32)), .val (.int (2 : Int32)), .val (.long x2), .second] [(.int (0 : Int32)), (.ref ar)])) _
  refine XS.lload X8.here hx rfl (hb hby d4_63) rfl ?_
  show Steps p.tables e below (T8.setTop (mkF m 65 #[.val (.ref ar), .val (.int (0 : Int32)), .val (.int (4 : Int32)), .val (.int (-1 : Int32)), .val (.int (2 : Int32)), .val (.long x2), .second] [(.long x2), (.int (0 : Int32)), (.ref ar)])) _
  refine st9 _ ?_
  show Steps p.tables e below (T9.setTop (mkF m 66 #[.val (.ref ar), .val (.int (0 : Int32)), .val (.int (4 : Int32)), .val (.int (-1 : Int32)), .val (.int (2 : Int32)), .val (.long x2), .second] [])) _
  refine XS.goto X9.here hx rfl (pc0 := 66) (pc' := 3) rfl (hb hby d4_66) (by decide) (by decide) ?_
  exact kt
set_option maxRecDepth 65536 in
set_option maxHeartbeats 40000000 in
theorem tn4_3_0 {p : Program} {l : Launch} {e : Env} {R : Room} {s : State} {m : MethodId} {args : Array Value} {below : List Frame} {meth : Method} {c : Code} {T0 : State} {locs : List Loc} {cells slots : Nat} {Z : State} {a0 : Array Value} {h0 : Heap} {n0 : Nat} (ka : ClassId) (x0 : Int64) (x1 : Int64) (x2 : Int64) (x3 : Int64) (ar : Addr) (j0 : Int32) (v0 : Int64)
    (X0 : Stand p l e R s m args below meth c T0 locs cells slots) (hx : p.tables.exec = Jvm.exec) (hZ : Z.Warmed39 s.vm) (hw : ∀ d ∈ tables_1, d.before a0 Z = true) (hby : c.code = jdk_2529_method_15_code) (hml : c.maxLocals = 7) (hown : s.vm.findClass "java/util/DualPivotQuicksort" = some m.cls) (e0 : T0.heap = h0) (N0 : Fr n0 locs) (Z0 : n0 ≤ h0.size) (V_ar : Arv Z h0 ar ka .long (4 : Int32) [(.long x0), (.long x1), (.long x2), (.long x3)] (.long (0 : Int64))) (hc28 : ¬ ((lcmpW x3 x2) < (0 : Int32))) :
    ∃ (T' : State) (h' : Heap) (locs' : List Loc), Stand p l e R s m args below meth c T' locs' cells slots ∧ T'.heap = h' ∧ Fr n0 locs' ∧ h' = h0 ∧ Arv Z h' ar ka .long (4 : Int32) [(.long x0), (.long x1), (.long x2), (.long x3)] (.long (0 : Int64)) ∧ ∀ target, Steps p.tables e below (T'.setTop (mkF m 3 #[.val (.ref ar), .val (.int (0 : Int32)), .val (.int (4 : Int32)), .val (.int (3 : Int32)), .val (.int (3 : Int32)), .val (.long x3), .second] [])) target → Steps p.tables e below (T0.setTop (mkF m 3 #[.val (.ref ar), .val (.int (0 : Int32)), .val (.int (4 : Int32)), .val (.int j0), .val (.int (2 : Int32)), .val (.long v0), .second] [])) target := by
  have Vc1 := V_ar
  obtain ⟨cl1, Ar1, q1, S1, M1, H1, G1⟩ := Vc1
  have hin1 : ¬ ((3 : Int32) < 0 ∨ cl1.slots.size ≤ ((3 : Int32)).toNatClampNeg) := inb_of S1 ⟨by decide, by decide⟩
  have hat1 : cl1.slots[((3 : Int32)).toNatClampNeg]? = some (.long x3) := Has.at H1 hin1 rfl
  have Vc2 := V_ar
  obtain ⟨cl2, Ar2, q2, S2, M2, H2, G2⟩ := Vc2
  have hin2 : ¬ ((2 : Int32) < 0 ∨ cl2.slots.size ≤ ((2 : Int32)).toNatClampNeg) := inb_of S2 ⟨by decide, by decide⟩
  have hat2 : cl2.slots[((2 : Int32)).toNatClampNeg]? = some (.long x2) := Has.at H2 hin2 rfl
  refine ⟨T0, h0, _, X0, e0, N0, rfl, V_ar, fun target kt => ?_⟩
  show Steps p.tables e below (T0.setTop (mkF m 3 #[.val (.ref ar), .val (.int (0 : Int32)), .val (.int (4 : Int32)), .val (.int j0), .val (.int (2 : Int32)), .val (.long v0), .second] [])) _
  refine XS.iinc X0.here hx rfl (hb hby d4_3) rfl (l' := #[.val (.ref ar), .val (.int (0 : Int32)), .val (.int (4 : Int32)), .val (.int j0), .val (.int ((2 : Int32) + (1 : Int32))), .val (.long v0), .second]) rfl ?_
  show Steps p.tables e below (T0.setTop (mkF m 6 #[.val (.ref ar), .val (.int (0 : Int32)), .val (.int (4 : Int32)), .val (.int j0), .val (.int ((2 : Int32) + (1 : Int32))), .val (.long v0), .second] [])) _
  rw [show ((2 : Int32) + (1 : Int32)) = (3 : Int32) from by decide]
  show Steps p.tables e below (T0.setTop (mkF m 6 #[.val (.ref ar), .val (.int (0 : Int32)), .val (.int (4 : Int32)), .val (.int j0), .val (.int (3 : Int32)), .val (.long v0), .second] [])) _
  refine XS.iload X0.here hx rfl (hb hby d4_6) rfl ?_
  show Steps p.tables e below (T0.setTop (mkF m 8 #[.val (.ref ar), .val (.int (0 : Int32)), .val (.int (4 : Int32)), .val (.int j0), .val (.int (3 : Int32)), .val (.long v0), .second] [(.int (3 : Int32))])) _
  refine XS.iloadN X0.here hx rfl (hb hby d4_8) rfl ?_
  show Steps p.tables e below (T0.setTop (mkF m 9 #[.val (.ref ar), .val (.int (0 : Int32)), .val (.int (4 : Int32)), .val (.int j0), .val (.int (3 : Int32)), .val (.long v0), .second] [(.int (4 : Int32)), (.int (3 : Int32))])) _
  refine XS.icmpNo X0.here hx rfl (hb hby d4_9) rfl (tlt (by decide : (3 : Int32) < (4 : Int32))).2.1 ?_
  show Steps p.tables e below (T0.setTop (mkF m 12 #[.val (.ref ar), .val (.int (0 : Int32)), .val (.int (4 : Int32)), .val (.int j0), .val (.int (3 : Int32)), .val (.long v0), .second] [])) _
  refine XS.aloadN X0.here hx rfl (hb hby d4_12) rfl rfl ?_
  show Steps p.tables e below (T0.setTop (mkF m 13 #[.val (.ref ar), .val (.int (0 : Int32)), .val (.int (4 : Int32)), .val (.int j0), .val (.int (3 : Int32)), .val (.long v0), .second] [(.ref ar)])) _
  refine XS.iload X0.here hx rfl (hb hby d4_13) rfl ?_
  show Steps p.tables e below (T0.setTop (mkF m 15 #[.val (.ref ar), .val (.int (0 : Int32)), .val (.int (4 : Int32)), .val (.int j0), .val (.int (3 : Int32)), .val (.long v0), .second] [(.int (3 : Int32)), (.ref ar)])) _
  refine XS.dup X0.here hx rfl (hb hby d4_15) rfl rfl ?_
  show Steps p.tables e below (T0.setTop (mkF m 16 #[.val (.ref ar), .val (.int (0 : Int32)), .val (.int (4 : Int32)), .val (.int j0), .val (.int (3 : Int32)), .val (.long v0), .second] [(.int (3 : Int32)), (.int (3 : Int32)), (.ref ar)])) _
  refine XS.istoreN X0.here hx rfl (hb hby d4_16) rfl (l' := #[.val (.ref ar), .val (.int (0 : Int32)), .val (.int (4 : Int32)), .val (.int (3 : Int32)), .val (.int (3 : Int32)), .val (.long v0), .second]) rfl ?_
  show Steps p.tables e below (T0.setTop (mkF m 17 #[.val (.ref ar), .val (.int (0 : Int32)), .val (.int (4 : Int32)), .val (.int (3 : Int32)), .val (.int (3 : Int32)), .val (.long v0), .second] [(.int (3 : Int32)), (.ref ar)])) _
  refine X0.laload hx (j := (3 : Int32)) (v := (.long x3)) (by rw [e0]; exact Ar1.1) (State.isArrayOf_alike hZ.alike Ar1.2.1) Ar1.2.2 hin1 hat1 (g := (mkF m 17 #[.val (.ref ar), .val (.int (0 : Int32)), .val (.int (4 : Int32)), .val (.int (3 : Int32)), .val (.int (3 : Int32)), .val (.long v0), .second] [(.int (3 : Int32)), (.ref ar)])) rfl rfl (hb hby d4_17) _ ?_
  show Steps p.tables e below (T0.setTop (mkF m 18 #[.val (.ref ar), .val (.int (0 : Int32)), .val (.int (4 : Int32)), .val (.int (3 : Int32)), .val (.int (3 : Int32)), .val (.long v0), .second] [(.long x3)])) _
  refine XS.lstore X0.here hx rfl (hb hby d4_18) rfl (l' := #[.val (.ref ar), .val (.int (0 : Int32)), .val (.int (4 : Int32)), .val (.int (3 : Int32)), .val (.int (3 : Int32)), .val (.long x3), .second]) rfl ?_
  show Steps p.tables e below (T0.setTop (mkF m 20 #[.val (.ref ar), .val (.int (0 : Int32)), .val (.int (4 : Int32)), .val (.int (3 : Int32)), .val (.int (3 : Int32)), .val (.long x3), .second] [])) _
  refine XS.lload X0.here hx rfl (hb hby d4_20) rfl ?_
  show Steps p.tables e below (T0.setTop (mkF m 22 #[.val (.ref ar), .val (.int (0 : Int32)), .val (.int (4 : Int32)), .val (.int (3 : Int32)), .val (.int (3 : Int32)), .val (.long x3), .second] [(.long x3)])) _
  refine XS.aloadN X0.here hx rfl (hb hby d4_22) rfl rfl ?_
  show Steps p.tables e below (T0.setTop (mkF m 23 #[.val (.ref ar), .val (.int (0 : Int32)), .val (.int (4 : Int32)), .val (.int (3 : Int32)), .val (.int (3 : Int32)), .val (.long x3), .second] [(.ref ar), (.long x3)])) _
  refine XS.iloadN X0.here hx rfl (hb hby d4_23) rfl ?_
  show Steps p.tables e below (T0.setTop (mkF m 24 #[.val (.ref ar), .val (.int (0 : Int32)), .val (.int (4 : Int32)), .val (.int (3 : Int32)), .val (.int (3 : Int32)), .val (.long x3), .second] [(.int (3 : Int32)), (.ref ar), (.long x3)])) _
  refine XS.iconst X0.here hx rfl (hb hby d4_24) ?_
  show Steps p.tables e below (T0.setTop (mkF m 25 #[.val (.ref ar), .val (.int (0 : Int32)), .val (.int (4 : Int32)), .val (.int (3 : Int32)), .val (.int (3 : Int32)), .val (.long x3), .second] [(.int (1 : Int32)), (.int (3 : Int32)), (.ref ar), (.long x3)])) _
  refine XS.isub X0.here hx rfl (hb hby d4_25) rfl ?_
  show Steps p.tables e below (T0.setTop (mkF m 26 #[.val (.ref ar), .val (.int (0 : Int32)), .val (.int (4 : Int32)), .val (.int (3 : Int32)), .val (.int (3 : Int32)), .val (.long x3), .second] [(.int ((3 : Int32) - (1 : Int32))), (.ref ar), (.long x3)])) _
  rw [show ((3 : Int32) - (1 : Int32)) = (2 : Int32) from by decide]
  show Steps p.tables e below (T0.setTop (mkF m 26 #[.val (.ref ar), .val (.int (0 : Int32)), .val (.int (4 : Int32)), .val (.int (3 : Int32)), .val (.int (3 : Int32)), .val (.long x3), .second] [(.int (2 : Int32)), (.ref ar), (.long x3)])) _
  refine X0.laload hx (j := (2 : Int32)) (v := (.long x2)) (by rw [e0]; exact Ar2.1) (State.isArrayOf_alike hZ.alike Ar2.2.1) Ar2.2.2 hin2 hat2 (g := (mkF m 26 #[.val (.ref ar), .val (.int (0 : Int32)), .val (.int (4 : Int32)), .val (.int (3 : Int32)), .val (.int (3 : Int32)), .val (.long x3), .second] [(.int (2 : Int32)), (.ref ar), (.long x3)])) rfl rfl (hb hby d4_26) _ ?_
  show Steps p.tables e below (T0.setTop (mkF m 27 #[.val (.ref ar), .val (.int (0 : Int32)), .val (.int (4 : Int32)), .val (.int (3 : Int32)), .val (.int (3 : Int32)), .val (.long x3), .second] [(.long x2), (.long x3)])) _
  refine XS.lcmp X0.here hx rfl (hb hby d4_27) rfl ?_
  show Steps p.tables e below (T0.setTop (mkF m 28 #[.val (.ref ar), .val (.int (0 : Int32)), .val (.int (4 : Int32)), .val (.int (3 : Int32)), .val (.int (3 : Int32)), .val (.long x3), .second] [(.int (lcmpW x3 x2))])) _
  refine XS.ifYes X0.here hx rfl (pc0 := 28) (pc' := 66) rfl (hb hby d4_28) rfl ((if0 _ _).trans (flt hc28).2.1) (by decide) (by decide) ?_
  show Steps p.tables e below (T0.setTop (mkF m 66 #[.val (.ref ar), .val (.int (0 : Int32)), .val (.int (4 : Int32)), .val (.int (3 : Int32)), .val (.int (3 : Int32)), .val (.long x3), .second] [])) _
  refine XS.goto X0.here hx rfl (pc0 := 66) (pc' := 3) rfl (hb hby d4_66) (by decide) (by decide) ?_
  exact kt
set_option maxRecDepth 65536 in
set_option maxHeartbeats 40000000 in
theorem tn4_3_1 {p : Program} {l : Launch} {e : Env} {R : Room} {s : State} {m : MethodId} {args : Array Value} {below : List Frame} {meth : Method} {c : Code} {T0 : State} {locs : List Loc} {cells slots : Nat} {Z : State} {a0 : Array Value} {h0 : Heap} {n0 : Nat} (ka : ClassId) (x0 : Int64) (x1 : Int64) (x2 : Int64) (x3 : Int64) (ar : Addr) (j0 : Int32) (v0 : Int64)
    (X0 : Stand p l e R s m args below meth c T0 locs cells slots) (hx : p.tables.exec = Jvm.exec) (hZ : Z.Warmed39 s.vm) (hw : ∀ d ∈ tables_1, d.before a0 Z = true) (hby : c.code = jdk_2529_method_15_code) (hml : c.maxLocals = 7) (hown : s.vm.findClass "java/util/DualPivotQuicksort" = some m.cls) (e0 : T0.heap = h0) (N0 : Fr n0 locs) (Z0 : n0 ≤ h0.size) (V_ar : Arv Z h0 ar ka .long (4 : Int32) [(.long x0), (.long x1), (.long x2), (.long x3)] (.long (0 : Int64))) (hc28 : (lcmpW x3 x2) < (0 : Int32)) (g_ar : n0 ≤ ar) (hc45_2 : ¬ ((lcmpW x3 x1) < (0 : Int32))) :
    ∃ (T' : State) (h' : Heap) (locs' : List Loc), Stand p l e R s m args below meth c T' locs' cells slots ∧ T'.heap = h' ∧ Fr n0 locs' ∧ Keep h0 h' [ar] ∧ Arv Z h' ar ka .long (4 : Int32) [(.long x0), (.long x1), (.long x3), (.long x2)] (.long (0 : Int64)) ∧ ∀ target, Steps p.tables e below (T'.setTop (mkF m 3 #[.val (.ref ar), .val (.int (0 : Int32)), .val (.int (4 : Int32)), .val (.int (1 : Int32)), .val (.int (3 : Int32)), .val (.long x3), .second] [])) target → Steps p.tables e below (T0.setTop (mkF m 3 #[.val (.ref ar), .val (.int (0 : Int32)), .val (.int (4 : Int32)), .val (.int j0), .val (.int (2 : Int32)), .val (.long v0), .second] [])) target := by
  have Vc1 := V_ar
  obtain ⟨cl1, Ar1, q1, S1, M1, H1, G1⟩ := Vc1
  have hin1 : ¬ ((3 : Int32) < 0 ∨ cl1.slots.size ≤ ((3 : Int32)).toNatClampNeg) := inb_of S1 ⟨by decide, by decide⟩
  have hat1 : cl1.slots[((3 : Int32)).toNatClampNeg]? = some (.long x3) := Has.at H1 hin1 rfl
  have Vc2 := V_ar
  obtain ⟨cl2, Ar2, q2, S2, M2, H2, G2⟩ := Vc2
  have hin2 : ¬ ((2 : Int32) < 0 ∨ cl2.slots.size ≤ ((2 : Int32)).toNatClampNeg) := inb_of S2 ⟨by decide, by decide⟩
  have hat2 : cl2.slots[((2 : Int32)).toNatClampNeg]? = some (.long x2) := Has.at H2 hin2 rfl
  have Vc3 := V_ar
  obtain ⟨cl3, Ar3, q3, S3, M3, H3, G3⟩ := Vc3
  have hin3 : ¬ ((2 : Int32) < 0 ∨ cl3.slots.size ≤ ((2 : Int32)).toNatClampNeg) := inb_of S3 ⟨by decide, by decide⟩
  have hat3 : cl3.slots[((2 : Int32)).toNatClampNeg]? = some (.long x2) := Has.at H3 hin3 rfl
  have Vc4 := V_ar
  obtain ⟨cl4, Ar4, q4, S4, M4, H4, G4⟩ := Vc4
  have hin4 : ¬ ((2 : Int32) < 0 ∨ cl4.slots.size ≤ ((2 : Int32)).toNatClampNeg) := inb_of S4 ⟨by decide, by decide⟩
  have hat4 : cl4.slots[((2 : Int32)).toNatClampNeg]? = some (.long x2) := Has.at H4 hin4 rfl
  have Vc5 := V_ar
  obtain ⟨cl5, Ar5, q5, S5, M5, H5, G5⟩ := Vc5
  have hin5 : ¬ ((3 : Int32) < 0 ∨ cl5.slots.size ≤ ((3 : Int32)).toNatClampNeg) := inb_of S5 ⟨by decide, by decide⟩
  obtain ⟨T5, h5, X5, e5, W5, st5⟩ := stJ X0 hx hZ e0 Ar5 (j := (3 : Int32)) hin5 (g := (mkF m 55 #[.val (.ref ar), .val (.int (0 : Int32)), .val (.int (4 : Int32)), .val (.int (2 : Int32)), .val (.int (3 : Int32)), .val (.long x3), .second] [(.long x2), (.int (3 : Int32)), (.ref ar)])) rfl rfl (hb hby d4_55)
  have V5 : Arv Z h5 ar ka .long (4 : Int32) [(.long x0), (.long x1), (.long x2), (.long x2)] (.long (0 : Int64)) := Arv.set Ar5 q5 S5 M5 H5 G5 rfl W5 3 rfl (Nat.le_of_ble_eq_true rfl)
  have N5 := Fr.snoc X5 N0 g_ar
  have Vc6 := V5
  obtain ⟨cl6, Ar6, q6, S6, M6, H6, G6⟩ := Vc6
  have hin6 : ¬ ((1 : Int32) < 0 ∨ cl6.slots.size ≤ ((1 : Int32)).toNatClampNeg) := inb_of S6 ⟨by decide, by decide⟩
  have hat6 : cl6.slots[((1 : Int32)).toNatClampNeg]? = some (.long x1) := Has.at H6 hin6 rfl
  have Vc7 := V5
  obtain ⟨cl7, Ar7, q7, S7, M7, H7, G7⟩ := Vc7
  have hin7 : ¬ ((2 : Int32) < 0 ∨ cl7.slots.size ≤ ((2 : Int32)).toNatClampNeg) := inb_of S7 ⟨by decide, by decide⟩
  obtain ⟨T7, h7, X7, e7, W7, st7⟩ := stJ X5 hx hZ e5 Ar7 (j := (2 : Int32)) hin7 (g := (mkF m 65 #[.val (.ref ar), .val (.int (0 : Int32)), .val (.int (4 : Int32)), .val (.int (1 : Int32)), .val (.int (3 : Int32)), .val (.long x3), .second] [(.long x3), (.int (2 : Int32)), (.ref ar)])) rfl rfl (hb hby d4_65)
  have V7 : Arv Z h7 ar ka .long (4 : Int32) [(.long x0), (.long x1), (.long x3), (.long x2)] (.long (0 : Int64)) := Arv.set Ar7 q7 S7 M7 H7 G7 rfl W7 2 rfl (Nat.le_of_ble_eq_true rfl)
  have N7 := Fr.snoc X7 N5 g_ar
  refine ⟨T7, h7, _, X7, e7, N7, (((Keep.refl h0 [ar]).wr W5 (Or.inl (List.mem_of_getElem? (i := 0) rfl))).wr W7 (Or.inl (List.mem_of_getElem? (i := 0) rfl))), V7, fun target kt => ?_⟩
  show Steps p.tables e below (T0.setTop (mkF m 3 #[.val (.ref ar), .val (.int (0 : Int32)), .val (.int (4 : Int32)), .val (.int j0), .val (.int (2 : Int32)), .val (.long v0), .second] [])) _
  refine XS.iinc X0.here hx rfl (hb hby d4_3) rfl (l' := #[.val (.ref ar), .val (.int (0 : Int32)), .val (.int (4 : Int32)), .val (.int j0), .val (.int ((2 : Int32) + (1 : Int32))), .val (.long v0), .second]) rfl ?_
  show Steps p.tables e below (T0.setTop (mkF m 6 #[.val (.ref ar), .val (.int (0 : Int32)), .val (.int (4 : Int32)), .val (.int j0), .val (.int ((2 : Int32) + (1 : Int32))), .val (.long v0), .second] [])) _
  rw [show ((2 : Int32) + (1 : Int32)) = (3 : Int32) from by decide]
  show Steps p.tables e below (T0.setTop (mkF m 6 #[.val (.ref ar), .val (.int (0 : Int32)), .val (.int (4 : Int32)), .val (.int j0), .val (.int (3 : Int32)), .val (.long v0), .second] [])) _
  refine XS.iload X0.here hx rfl (hb hby d4_6) rfl ?_
  show Steps p.tables e below (T0.setTop (mkF m 8 #[.val (.ref ar), .val (.int (0 : Int32)), .val (.int (4 : Int32)), .val (.int j0), .val (.int (3 : Int32)), .val (.long v0), .second] [(.int (3 : Int32))])) _
  refine XS.iloadN X0.here hx rfl (hb hby d4_8) rfl ?_
  show Steps p.tables e below (T0.setTop (mkF m 9 #[.val (.ref ar), .val (.int (0 : Int32)), .val (.int (4 : Int32)), .val (.int j0), .val (.int (3 : Int32)), .val (.long v0), .second] [(.int (4 : Int32)), (.int (3 : Int32))])) _
  refine XS.icmpNo X0.here hx rfl (hb hby d4_9) rfl (tlt (by decide : (3 : Int32) < (4 : Int32))).2.1 ?_
  show Steps p.tables e below (T0.setTop (mkF m 12 #[.val (.ref ar), .val (.int (0 : Int32)), .val (.int (4 : Int32)), .val (.int j0), .val (.int (3 : Int32)), .val (.long v0), .second] [])) _
  refine XS.aloadN X0.here hx rfl (hb hby d4_12) rfl rfl ?_
  show Steps p.tables e below (T0.setTop (mkF m 13 #[.val (.ref ar), .val (.int (0 : Int32)), .val (.int (4 : Int32)), .val (.int j0), .val (.int (3 : Int32)), .val (.long v0), .second] [(.ref ar)])) _
  refine XS.iload X0.here hx rfl (hb hby d4_13) rfl ?_
  show Steps p.tables e below (T0.setTop (mkF m 15 #[.val (.ref ar), .val (.int (0 : Int32)), .val (.int (4 : Int32)), .val (.int j0), .val (.int (3 : Int32)), .val (.long v0), .second] [(.int (3 : Int32)), (.ref ar)])) _
  refine XS.dup X0.here hx rfl (hb hby d4_15) rfl rfl ?_
  show Steps p.tables e below (T0.setTop (mkF m 16 #[.val (.ref ar), .val (.int (0 : Int32)), .val (.int (4 : Int32)), .val (.int j0), .val (.int (3 : Int32)), .val (.long v0), .second] [(.int (3 : Int32)), (.int (3 : Int32)), (.ref ar)])) _
  refine XS.istoreN X0.here hx rfl (hb hby d4_16) rfl (l' := #[.val (.ref ar), .val (.int (0 : Int32)), .val (.int (4 : Int32)), .val (.int (3 : Int32)), .val (.int (3 : Int32)), .val (.long v0), .second]) rfl ?_
  show Steps p.tables e below (T0.setTop (mkF m 17 #[.val (.ref ar), .val (.int (0 : Int32)), .val (.int (4 : Int32)), .val (.int (3 : Int32)), .val (.int (3 : Int32)), .val (.long v0), .second] [(.int (3 : Int32)), (.ref ar)])) _
  refine X0.laload hx (j := (3 : Int32)) (v := (.long x3)) (by rw [e0]; exact Ar1.1) (State.isArrayOf_alike hZ.alike Ar1.2.1) Ar1.2.2 hin1 hat1 (g := (mkF m 17 #[.val (.ref ar), .val (.int (0 : Int32)), .val (.int (4 : Int32)), .val (.int (3 : Int32)), .val (.int (3 : Int32)), .val (.long v0), .second] [(.int (3 : Int32)), (.ref ar)])) rfl rfl (hb hby d4_17) _ ?_
  show Steps p.tables e below (T0.setTop (mkF m 18 #[.val (.ref ar), .val (.int (0 : Int32)), .val (.int (4 : Int32)), .val (.int (3 : Int32)), .val (.int (3 : Int32)), .val (.long v0), .second] [(.long x3)])) _
  refine XS.lstore X0.here hx rfl (hb hby d4_18) rfl (l' := #[.val (.ref ar), .val (.int (0 : Int32)), .val (.int (4 : Int32)), .val (.int (3 : Int32)), .val (.int (3 : Int32)), .val (.long x3), .second]) rfl ?_
  show Steps p.tables e below (T0.setTop (mkF m 20 #[.val (.ref ar), .val (.int (0 : Int32)), .val (.int (4 : Int32)), .val (.int (3 : Int32)), .val (.int (3 : Int32)), .val (.long x3), .second] [])) _
  refine XS.lload X0.here hx rfl (hb hby d4_20) rfl ?_
  show Steps p.tables e below (T0.setTop (mkF m 22 #[.val (.ref ar), .val (.int (0 : Int32)), .val (.int (4 : Int32)), .val (.int (3 : Int32)), .val (.int (3 : Int32)), .val (.long x3), .second] [(.long x3)])) _
  refine XS.aloadN X0.here hx rfl (hb hby d4_22) rfl rfl ?_
  show Steps p.tables e below (T0.setTop (mkF m 23 #[.val (.ref ar), .val (.int (0 : Int32)), .val (.int (4 : Int32)), .val (.int (3 : Int32)), .val (.int (3 : Int32)), .val (.long x3), .second] [(.ref ar), (.long x3)])) _
  refine XS.iloadN X0.here hx rfl (hb hby d4_23) rfl ?_
  show Steps p.tables e below (T0.setTop (mkF m 24 #[.val (.ref ar), .val (.int (0 : Int32)), .val (.int (4 : Int32)), .val (.int (3 : Int32)), .val (.int (3 : Int32)), .val (.long x3), .second] [(.int (3 : Int32)), (.ref ar), (.long x3)])) _
  refine XS.iconst X0.here hx rfl (hb hby d4_24) ?_
  show Steps p.tables e below (T0.setTop (mkF m 25 #[.val (.ref ar), .val (.int (0 : Int32)), .val (.int (4 : Int32)), .val (.int (3 : Int32)), .val (.int (3 : Int32)), .val (.long x3), .second] [(.int (1 : Int32)), (.int (3 : Int32)), (.ref ar), (.long x3)])) _
  refine XS.isub X0.here hx rfl (hb hby d4_25) rfl ?_
  show Steps p.tables e below (T0.setTop (mkF m 26 #[.val (.ref ar), .val (.int (0 : Int32)), .val (.int (4 : Int32)), .val (.int (3 : Int32)), .val (.int (3 : Int32)), .val (.long x3), .second] [(.int ((3 : Int32) - (1 : Int32))), (.ref ar), (.long x3)])) _
  rw [show ((3 : Int32) - (1 : Int32)) = (2 : Int32) from by decide]
  show Steps p.tables e below (T0.setTop (mkF m 26 #[.val (.ref ar), .val (.int (0 : Int32)), .val (.int (4 : Int32)), .val (.int (3 : Int32)), .val (.int (3 : Int32)), .val (.long x3), .second] [(.int (2 : Int32)), (.ref ar), (.long x3)])) _
  refine X0.laload hx (j := (2 : Int32)) (v := (.long x2)) (by rw [e0]; exact Ar2.1) (State.isArrayOf_alike hZ.alike Ar2.2.1) Ar2.2.2 hin2 hat2 (g := (mkF m 26 #[.val (.ref ar), .val (.int (0 : Int32)), .val (.int (4 : Int32)), .val (.int (3 : Int32)), .val (.int (3 : Int32)), .val (.long x3), .second] [(.int (2 : Int32)), (.ref ar), (.long x3)])) rfl rfl (hb hby d4_26) _ ?_
  show Steps p.tables e below (T0.setTop (mkF m 27 #[.val (.ref ar), .val (.int (0 : Int32)), .val (.int (4 : Int32)), .val (.int (3 : Int32)), .val (.int (3 : Int32)), .val (.long x3), .second] [(.long x2), (.long x3)])) _
  refine XS.lcmp X0.here hx rfl (hb hby d4_27) rfl ?_
  show Steps p.tables e below (T0.setTop (mkF m 28 #[.val (.ref ar), .val (.int (0 : Int32)), .val (.int (4 : Int32)), .val (.int (3 : Int32)), .val (.int (3 : Int32)), .val (.long x3), .second] [(.int (lcmpW x3 x2))])) _
  refine XS.ifNo X0.here hx rfl (hb hby d4_28) rfl ((if0 _ _).trans (tlt hc28).2.1) ?_
  show Steps p.tables e below (T0.setTop (mkF m 31 #[.val (.ref ar), .val (.int (0 : Int32)), .val (.int (4 : Int32)), .val (.int (3 : Int32)), .val (.int (3 : Int32)), .val (.long x3), .second] [])) _
  refine XS.iinc X0.here hx rfl (hb hby d4_31) rfl (l' := #[.val (.ref ar), .val (.int (0 : Int32)), .val (.int (4 : Int32)), .val (.int ((3 : Int32) + (-1 : Int32))), .val (.int (3 : Int32)), .val (.long x3), .second]) rfl ?_
  show Steps p.tables e below (T0.setTop (mkF m 34 #[.val (.ref ar), .val (.int (0 : Int32)), .val (.int (4 : Int32)), .val (.int ((3 : Int32) + (-1 : Int32))), .val (.int (3 : Int32)), .val (.long x3), .second] [])) _
  rw [show ((3 : Int32) + (-1 : Int32)) = (2 : Int32) from by decide]
  show Steps p.tables e below (T0.setTop (mkF m 34 #[.val (.ref ar), .val (.int (0 : Int32)), .val (.int (4 : Int32)), .val (.int (2 : Int32)), .val (.int (3 : Int32)), .val (.long x3), .second] [])) _
  refine XS.iloadN X0.here hx rfl (hb hby d4_34) rfl ?_
  show Steps p.tables e below (T0.setTop (mkF m 35 #[.val (.ref ar), .val (.int (0 : Int32)), .val (.int (4 : Int32)), .val (.int (2 : Int32)), .val (.int (3 : Int32)), .val (.long x3), .second] [(.int (2 : Int32))])) _
  refine XS.iloadN X0.here hx rfl (hb hby d4_35) rfl ?_
  show Steps p.tables e below (T0.setTop (mkF m 36 #[.val (.ref ar), .val (.int (0 : Int32)), .val (.int (4 : Int32)), .val (.int (2 : Int32)), .val (.int (3 : Int32)), .val (.long x3), .second] [(.int (0 : Int32)), (.int (2 : Int32))])) _
  refine XS.icmpNo X0.here hx rfl (hb hby d4_36) rfl (flt (by decide : ¬ ((2 : Int32) < (0 : Int32)))).1 ?_
  show Steps p.tables e below (T0.setTop (mkF m 39 #[.val (.ref ar), .val (.int (0 : Int32)), .val (.int (4 : Int32)), .val (.int (2 : Int32)), .val (.int (3 : Int32)), .val (.long x3), .second] [])) _
  refine XS.lload X0.here hx rfl (hb hby d4_39) rfl ?_
  show Steps p.tables e below (T0.setTop (mkF m 41 #[.val (.ref ar), .val (.int (0 : Int32)), .val (.int (4 : Int32)), .val (.int (2 : Int32)), .val (.int (3 : Int32)), .val (.long x3), .second] [(.long x3)])) _
  refine XS.aloadN X0.here hx rfl (hb hby d4_41) rfl rfl ?_
  show Steps p.tables e below (T0.setTop (mkF m 42 #[.val (.ref ar), .val (.int (0 : Int32)), .val (.int (4 : Int32)), .val (.int (2 : Int32)), .val (.int (3 : Int32)), .val (.long x3), .second] [(.ref ar), (.long x3)])) _
  refine XS.iloadN X0.here hx rfl (hb hby d4_42) rfl ?_
  show Steps p.tables e below (T0.setTop (mkF m 43 #[.val (.ref ar), .val (.int (0 : Int32)), .val (.int (4 : Int32)), .val (.int (2 : Int32)), .val (.int (3 : Int32)), .val (.long x3), .second] [(.int (2 : Int32)), (.ref ar), (.long x3)])) _
  refine X0.laload hx (j := (2 : Int32)) (v := (.long x2)) (by rw [e0]; exact Ar3.1) (State.isArrayOf_alike hZ.alike Ar3.2.1) Ar3.2.2 hin3 hat3 (g := (mkF m 43 #[.val (.ref ar), .val (.int (0 : Int32)), .val (.int (4 : Int32)), .val (.int (2 : Int32)), .val (.int (3 : Int32)), .val (.long x3), .second] [(.int (2 : Int32)), (.ref ar), (.long x3)])) rfl rfl (hb hby d4_43) _ ?_
  show Steps p.tables e below (T0.setTop (mkF m 44 #[.val (.ref ar), .val (.int (0 : Int32)), .val (.int (4 : Int32)), .val (.int (2 : Int32)), .val (.int (3 : Int32)), .val (.long x3), .second] [(.long x2), (.long x3)])) _
  refine XS.lcmp X0.here hx rfl (hb hby d4_44) rfl ?_
  show Steps p.tables e below (T0.setTop (mkF m 45 #[.val (.ref ar), .val (.int (0 : Int32)), .val (.int (4 : Int32)), .val (.int (2 : Int32)), .val (.int (3 : Int32)), .val (.long x3), .second] [(.int (lcmpW x3 x2))])) _
  refine XS.ifNo X0.here hx rfl (hb hby d4_45) rfl ((if0 _ _).trans (tlt hc28).2.1) ?_
  show Steps p.tables e below (T0.setTop (mkF m 48 #[.val (.ref ar), .val (.int (0 : Int32)), .val (.int (4 : Int32)), .val (.int (2 : Int32)), .val (.int (3 : Int32)), .val (.long x3), .second] [])) _
  refine XS.aloadN X0.here hx rfl (hb hby d4_48) rfl rfl ?_
  show Steps p.tables e below (T0.setTop (mkF m 49 #[.val (.ref ar), .val (.int (0 : Int32)), .val (.int (4 : Int32)), .val (.int (2 : Int32)), .val (.int (3 : Int32)), .val (.long x3), .second] [(.ref ar)])) _
  refine XS.iloadN X0.here hx rfl (hb hby d4_49) rfl ?_
  show Steps p.tables e below (T0.setTop (mkF m 50 #[.val (.ref ar), .val (.int (0 : Int32)), .val (.int (4 : Int32)), .val (.int (2 : Int32)), .val (.int (3 : Int32)), .val (.long x3), .second] [(.int (2 : Int32)), (.ref ar)])) _
  refine XS.iconst X0.here hx rfl (hb hby d4_50) ?_
  show Steps p.tables e below (T0.setTop (mkF m 51 #[.val (.ref ar), .val (.int (0 : Int32)), .val (.int (4 : Int32)), .val (.int (2 : Int32)), .val (.int (3 : Int32)), .val (.long x3), .second] [(.int (1 : Int32)), (.int (2 : Int32)), (.ref ar)])) _
  refine XS.iadd X0.here hx rfl (hb hby d4_51) rfl ?_
  show Steps p.tables e below (T0.setTop (mkF m 52 #[.val (.ref ar), .val (.int (0 : Int32)), .val (.int (4 : Int32)), .val (.int (2 : Int32)), .val (.int (3 : Int32)), .val (.long x3), .second] [(.int ((2 : Int32) + (1 : Int32))), (.ref ar)])) _
  rw [show ((2 : Int32) + (1 : Int32)) = (3 : Int32) from by decide]
  show Steps p.tables e below (T0.setTop (mkF m 52 #[.val (.ref ar), .val (.int (0 : Int32)), .val (.int (4 : Int32)), .val (.int (2 : Int32)), .val (.int (3 : Int32)), .val (.long x3), .second] [(.int (3 : Int32)), (.ref ar)])) _
  refine XS.aloadN X0.here hx rfl (hb hby d4_52) rfl rfl ?_
  show Steps p.tables e below (T0.setTop (mkF m 53 #[.val (.ref ar), .val (.int (0 : Int32)), .val (.int (4 : Int32)), .val (.int (2 : Int32)), .val (.int (3 : Int32)), .val (.long x3), .second] [(.ref ar), (.int (3 : Int32)), (.ref ar)])) _
  refine XS.iloadN X0.here hx rfl (hb hby d4_53) rfl ?_
  show Steps p.tables e below (T0.setTop (mkF m 54 #[.val (.ref ar), .val (.int (0 : Int32)), .val (.int (4 : Int32)), .val (.int (2 : Int32)), .val (.int (3 : Int32)), .val (.long x3), .second] [(.int (2 : Int32)), (.ref ar), (.int (3 : Int32)), (.ref ar)])) _
  refine X0.laload hx (j := (2 : Int32)) (v := (.long x2)) (by rw [e0]; exact Ar4.1) (State.isArrayOf_alike hZ.alike Ar4.2.1) Ar4.2.2 hin4 hat4 (g := (mkF m 54 #[.val (.ref ar), .val (.int (0 : Int32)), .val (.int (4 : Int32)), .val (.int (2 : Int32)), .val (.int (3 : Int32)), .val (.long x3), .second] [(.int (2 : Int32)), (.ref ar), (.int (3 : Int32)), (.ref ar)])) rfl rfl (hb hby d4_54) _ ?_
  show Steps p.tables e below (T0.setTop (mkF m 55 #[.val (.ref ar), .val (.int (0 : Int32)), .val (.int (4 : Int32)), .val (.int (2 : Int32)), .val (.int (3 : Int32)), .val (.long x3), .second] [(.long x2), (.int (3 : Int32)), (.ref ar)])) _
  refine st5 _ ?_
  show Steps p.tables e below (T5.setTop (mkF m 56 #[.val (.ref ar), .val (.int (0 : Int32)), .val (.int (4 : Int32)), .val (.int (2 : Int32)), .val (.int (3 : Int32)), .val (.long x3), .second] [])) _
  refine XS.goto X5.here hx rfl (pc0 := 56) (pc' := 31) rfl (hb hby d4_56) (by decide) (by decide) ?_
  show Steps p.tables e below (T5.setTop (mkF m 31 #[.val (.ref ar), .val (.int (0 : Int32)), .val (.int (4 : Int32)), .val (.int (2 : Int32)), .val (.int (3 : Int32)), .val (.long x3), .second] [])) _
  refine XS.iinc X5.here hx rfl (hb hby d4_31) rfl (l' := #[.val (.ref ar), .val (.int (0 : Int32)), .val (.int (4 : Int32)), .val (.int ((2 : Int32) + (-1 : Int32))), .val (.int (3 : Int32)), .val (.long x3), .second]) rfl ?_
  show Steps p.tables e below (T5.setTop (mkF m 34 #[.val (.ref ar), .val (.int (0 : Int32)), .val (.int (4 : Int32)), .val (.int ((2 : Int32) + (-1 : Int32))), .val (.int (3 : Int32)), .val (.long x3), .second] [])) _
  rw [show ((2 : Int32) + (-1 : Int32)) = (1 : Int32) from by decide]
  show Steps p.tables e below (T5.setTop (mkF m 34 #[.val (.ref ar), .val (.int (0 : Int32)), .val (.int (4 : Int32)), .val (.int (1 : Int32)), .val (.int (3 : Int32)), .val (.long x3), .second] [])) _
  refine XS.iloadN X5.here hx rfl (hb hby d4_34) rfl ?_
  show Steps p.tables e below (T5.setTop (mkF m 35 #[.val (.ref ar), .val (.int (0 : Int32)), .val (.int (4 : Int32)), .val (.int (1 : Int32)), .val (.int (3 : Int32)), .val (.long x3), .second] [(.int (1 : Int32))])) _
  refine XS.iloadN X5.here hx rfl (hb hby d4_35) rfl ?_
  show Steps p.tables e below (T5.setTop (mkF m 36 #[.val (.ref ar), .val (.int (0 : Int32)), .val (.int (4 : Int32)), .val (.int (1 : Int32)), .val (.int (3 : Int32)), .val (.long x3), .second] [(.int (0 : Int32)), (.int (1 : Int32))])) _
  refine XS.icmpNo X5.here hx rfl (hb hby d4_36) rfl (flt (by decide : ¬ ((1 : Int32) < (0 : Int32)))).1 ?_
  show Steps p.tables e below (T5.setTop (mkF m 39 #[.val (.ref ar), .val (.int (0 : Int32)), .val (.int (4 : Int32)), .val (.int (1 : Int32)), .val (.int (3 : Int32)), .val (.long x3), .second] [])) _
  refine XS.lload X5.here hx rfl (hb hby d4_39) rfl ?_
  show Steps p.tables e below (T5.setTop (mkF m 41 #[.val (.ref ar), .val (.int (0 : Int32)), .val (.int (4 : Int32)), .val (.int (1 : Int32)), .val (.int (3 : Int32)), .val (.long x3), .second] [(.long x3)])) _
  refine XS.aloadN X5.here hx rfl (hb hby d4_41) rfl rfl ?_
  show Steps p.tables e below (T5.setTop (mkF m 42 #[.val (.ref ar), .val (.int (0 : Int32)), .val (.int (4 : Int32)), .val (.int (1 : Int32)), .val (.int (3 : Int32)), .val (.long x3), .second] [(.ref ar), (.long x3)])) _
  refine XS.iloadN X5.here hx rfl (hb hby d4_42) rfl ?_
  show Steps p.tables e below (T5.setTop (mkF m 43 #[.val (.ref ar), .val (.int (0 : Int32)), .val (.int (4 : Int32)), .val (.int (1 : Int32)), .val (.int (3 : Int32)), .val (.long x3), .second] [(.int (1 : Int32)), (.ref ar), (.long x3)])) _
  refine X5.laload hx (j := (1 : Int32)) (v := (.long x1)) (by rw [e5]; exact Ar6.1) (State.isArrayOf_alike hZ.alike Ar6.2.1) Ar6.2.2 hin6 hat6 (g := (mkF m 43 #[.val (.ref ar), .val (.int (0 : Int32)), .val (.int (4 : Int32)), .val (.int (1 : Int32)), .val (.int (3 : Int32)), .val (.long x3), .second] [(.int (1 : Int32)), (.ref ar), (.long x3)])) rfl rfl (hb hby d4_43) _ ?_
  show Steps p.tables e below (T5.setTop (mkF m 44 #[.val (.ref ar), .val (.int (0 : Int32)), .val (.int (4 : Int32)), .val (.int (1 : Int32)), .val (.int (3 : Int32)), .val (.long x3), .second] [(.long x1), (.long x3)])) _
  refine XS.lcmp X5.here hx rfl (hb hby d4_44) rfl ?_
  show Steps p.tables e below (T5.setTop (mkF m 45 #[.val (.ref ar), .val (.int (0 : Int32)), .val (.int (4 : Int32)), .val (.int (1 : Int32)), .val (.int (3 : Int32)), .val (.long x3), .second] [(.int (lcmpW x3 x1))])) _
  refine XS.ifYes X5.here hx rfl (pc0 := 45) (pc' := 59) rfl (hb hby d4_45) rfl ((if0 _ _).trans (flt hc45_2).2.1) (by decide) (by decide) ?_
  show Steps p.tables e below (T5.setTop (mkF m 59 #[.val (.ref ar), .val (.int (0 : Int32)), .val (.int (4 : Int32)), .val (.int (1 : Int32)), .val (.int (3 : Int32)), .val (.long x3), .second] [])) _
  refine XS.aloadN X5.here hx rfl (hb hby d4_59) rfl rfl ?_
  show Steps p.tables e below (T5.setTop (mkF m 60 #[.val (.ref ar), .val (.int (0 : Int32)), .val (.int (4 : Int32)), .val (.int (1 : Int32)), .val (.int (3 : Int32)), .val (.long x3), .second] [(.ref ar)])) _
  refine XS.iloadN X5.here hx rfl (hb hby d4_60) rfl ?_
  show Steps p.tables e below (T5.setTop (mkF m 61 #[.val (.ref ar), .val (.int (0 : Int32)), .val (.int (4 : Int32)), .val (.int (1 : Int32)), .val (.int (3 : Int32)), .val (.long x3), .second] [(.int (1 : Int32)), (.ref ar)])) _
  refine XS.iconst X5.here hx rfl (hb hby d4_61) ?_
  show Steps p.tables e below (T5.setTop (mkF m 62 #[.val (.ref ar), .val (.int (0 : Int32)), .val (.int (4 : Int32)), .val (.int (1 : Int32)), .val (.int (3 : Int32)), .val (.long x3), .second] [(.int (1 : Int32)), (.int (1 : Int32)), (.ref ar)])) _
  refine XS.iadd X5.here hx rfl (hb hby d4_62) rfl ?_
  show Steps p.tables e below (T5.setTop (mkF m 63 #[.val (.ref ar), .val (.int (0 : Int32)), .val (.int (4 : Int32)), .val (.int (1 : Int32)), .val (.int (3 : Int32)), .val (.long x3), .second] [(.int ((1 : Int32) + (1 : Int32))), (.ref ar)])) _
  rw [show ((1 : Int32) + (1 : Int32)) = (2 : Int32) from by decide]
  show Steps p.tables e below (T5.setTop (mkF m 63 #[.val (.ref ar), .val (.int (0 : Int32)), .val (.int (4 : Int32)), .val (.int (1 : Int32)), .val (.int (3 : Int32)), .val (.long x3), .second] [(.int (2 : Int32)), (.ref ar)])) _
  refine XS.lload X5.here hx rfl (hb hby d4_63) rfl ?_
  show Steps p.tables e below (T5.setTop (mkF m 65 #[.val (.ref ar), .val (.int (0 : Int32)), .val (.int (4 : Int32)), .val (.int (1 : Int32)), .val (.int (3 : Int32)), .val (.long x3), .second] [(.long x3), (.int (2 : Int32)), (.ref ar)])) _
  refine st7 _ ?_
  show Steps p.tables e below (T7.setTop (mkF m 66 #[.val (.ref ar), .val (.int (0 : Int32)), .val (.int (4 : Int32)), .val (.int (1 : Int32)), .val (.int (3 : Int32)), .val (.long x3), .second] [])) _
  refine XS.goto X7.here hx rfl (pc0 := 66) (pc' := 3) rfl (hb hby d4_66) (by decide) (by decide) ?_
  exact kt
set_option maxRecDepth 65536 in
set_option maxHeartbeats 40000000 in
theorem tn4_3_2 {p : Program} {l : Launch} {e : Env} {R : Room} {s : State} {m : MethodId} {args : Array Value} {below : List Frame} {meth : Method} {c : Code} {T0 : State} {locs : List Loc} {cells slots : Nat} {Z : State} {a0 : Array Value} {h0 : Heap} {n0 : Nat} (ka : ClassId) (x0 : Int64) (x1 : Int64) (x2 : Int64) (x3 : Int64) (ar : Addr) (j0 : Int32) (v0 : Int64)
    (X0 : Stand p l e R s m args below meth c T0 locs cells slots) (hx : p.tables.exec = Jvm.exec) (hZ : Z.Warmed39 s.vm) (hw : ∀ d ∈ tables_1, d.before a0 Z = true) (hby : c.code = jdk_2529_method_15_code) (hml : c.maxLocals = 7) (hown : s.vm.findClass "java/util/DualPivotQuicksort" = some m.cls) (e0 : T0.heap = h0) (N0 : Fr n0 locs) (Z0 : n0 ≤ h0.size) (V_ar : Arv Z h0 ar ka .long (4 : Int32) [(.long x0), (.long x1), (.long x2), (.long x3)] (.long (0 : Int64))) (hc28 : (lcmpW x3 x2) < (0 : Int32)) (g_ar : n0 ≤ ar) (hc45_2 : (lcmpW x3 x1) < (0 : Int32)) (hc45_3 : ¬ ((lcmpW x3 x0) < (0 : Int32))) :
    ∃ (T' : State) (h' : Heap) (locs' : List Loc), Stand p l e R s m args below meth c T' locs' cells slots ∧ T'.heap = h' ∧ Fr n0 locs' ∧ Keep h0 h' [ar] ∧ Arv Z h' ar ka .long (4 : Int32) [(.long x0), (.long x3), (.long x1), (.long x2)] (.long (0 : Int64)) ∧ ∀ target, Steps p.tables e below (T'.setTop (mkF m 3 #[.val (.ref ar), .val (.int (0 : Int32)), .val (.int (4 : Int32)), .val (.int (0 : Int32)), .val (.int (3 : Int32)), .val (.long x3), .second] [])) target → Steps p.tables e below (T0.setTop (mkF m 3 #[.val (.ref ar), .val (.int (0 : Int32)), .val (.int (4 : Int32)), .val (.int j0), .val (.int (2 : Int32)), .val (.long v0), .second] [])) target := by
  have Vc1 := V_ar
  obtain ⟨cl1, Ar1, q1, S1, M1, H1, G1⟩ := Vc1
  have hin1 : ¬ ((3 : Int32) < 0 ∨ cl1.slots.size ≤ ((3 : Int32)).toNatClampNeg) := inb_of S1 ⟨by decide, by decide⟩
  have hat1 : cl1.slots[((3 : Int32)).toNatClampNeg]? = some (.long x3) := Has.at H1 hin1 rfl
  have Vc2 := V_ar
  obtain ⟨cl2, Ar2, q2, S2, M2, H2, G2⟩ := Vc2
  have hin2 : ¬ ((2 : Int32) < 0 ∨ cl2.slots.size ≤ ((2 : Int32)).toNatClampNeg) := inb_of S2 ⟨by decide, by decide⟩
  have hat2 : cl2.slots[((2 : Int32)).toNatClampNeg]? = some (.long x2) := Has.at H2 hin2 rfl
  have Vc3 := V_ar
  obtain ⟨cl3, Ar3, q3, S3, M3, H3, G3⟩ := Vc3
  have hin3 : ¬ ((2 : Int32) < 0 ∨ cl3.slots.size ≤ ((2 : Int32)).toNatClampNeg) := inb_of S3 ⟨by decide, by decide⟩
  have hat3 : cl3.slots[((2 : Int32)).toNatClampNeg]? = some (.long x2) := Has.at H3 hin3 rfl
  have Vc4 := V_ar
  obtain ⟨cl4, Ar4, q4, S4, M4, H4, G4⟩ := Vc4
  have hin4 : ¬ ((2 : Int32) < 0 ∨ cl4.slots.size ≤ ((2 : Int32)).toNatClampNeg) := inb_of S4 ⟨by decide, by decide⟩
  have hat4 : cl4.slots[((2 : Int32)).toNatClampNeg]? = some (.long x2) := Has.at H4 hin4 rfl
  have Vc5 := V_ar
  obtain ⟨cl5, Ar5, q5, S5, M5, H5, G5⟩ := Vc5
  have hin5 : ¬ ((3 : Int32) < 0 ∨ cl5.slots.size ≤ ((3 : Int32)).toNatClampNeg) := inb_of S5 ⟨by decide, by decide⟩
  obtain ⟨T5, h5, X5, e5, W5, st5⟩ := stJ X0 hx hZ e0 Ar5 (j := (3 : Int32)) hin5 (g := (mkF m 55 #[.val (.ref ar), .val (.int (0 : Int32)), .val (.int (4 : Int32)), .val (.int (2 : Int32)), .val (.int (3 : Int32)), .val (.long x3), .second] [(.long x2), (.int (3 : Int32)), (.ref ar)])) rfl rfl (hb hby d4_55)
  have V5 : Arv Z h5 ar ka .long (4 : Int32) [(.long x0), (.long x1), (.long x2), (.long x2)] (.long (0 : Int64)) := Arv.set Ar5 q5 S5 M5 H5 G5 rfl W5 3 rfl (Nat.le_of_ble_eq_true rfl)
  have N5 := Fr.snoc X5 N0 g_ar
  have Vc6 := V5
  obtain ⟨cl6, Ar6, q6, S6, M6, H6, G6⟩ := Vc6
  have hin6 : ¬ ((1 : Int32) < 0 ∨ cl6.slots.size ≤ ((1 : Int32)).toNatClampNeg) := inb_of S6 ⟨by decide, by decide⟩
  have hat6 : cl6.slots[((1 : Int32)).toNatClampNeg]? = some (.long x1) := Has.at H6 hin6 rfl
  have Vc7 := V5
  obtain ⟨cl7, Ar7, q7, S7, M7, H7, G7⟩ := Vc7
  have hin7 : ¬ ((1 : Int32) < 0 ∨ cl7.slots.size ≤ ((1 : Int32)).toNatClampNeg) := inb_of S7 ⟨by decide, by decide⟩
  have hat7 : cl7.slots[((1 : Int32)).toNatClampNeg]? = some (.long x1) := Has.at H7 hin7 rfl
  have Vc8 := V5
  obtain ⟨cl8, Ar8, q8, S8, M8, H8, G8⟩ := Vc8
  have hin8 : ¬ ((2 : Int32) < 0 ∨ cl8.slots.size ≤ ((2 : Int32)).toNatClampNeg) := inb_of S8 ⟨by decide, by decide⟩
  obtain ⟨T8, h8, X8, e8, W8, st8⟩ := stJ X5 hx hZ e5 Ar8 (j := (2 : Int32)) hin8 (g := (mkF m 55 #[.val (.ref ar), .val (.int (0 : Int32)), .val (.int (4 : Int32)), .val (.int (1 : Int32)), .val (.int (3 : Int32)), .val (.long x3), .second] [(.long x1), (.int (2 : Int32)), (.ref ar)])) rfl rfl (hb hby d4_55)
  have V8 : Arv Z h8 ar ka .long (4 : Int32) [(.long x0), (.long x1), (.long x1), (.long x2)] (.long (0 : Int64)) := Arv.set Ar8 q8 S8 M8 H8 G8 rfl W8 2 rfl (Nat.le_of_ble_eq_true rfl)
  have N8 := Fr.snoc X8 N5 g_ar
  have Vc9 := V8
  obtain ⟨cl9, Ar9, q9, S9, M9, H9, G9⟩ := Vc9
  have hin9 : ¬ ((0 : Int32) < 0 ∨ cl9.slots.size ≤ ((0 : Int32)).toNatClampNeg) := inb_of S9 ⟨by decide, by decide⟩
  have hat9 : cl9.slots[((0 : Int32)).toNatClampNeg]? = some (.long x0) := Has.at H9 hin9 rfl
  have Vc10 := V8
  obtain ⟨cl10, Ar10, q10, S10, M10, H10, G10⟩ := Vc10
  have hin10 : ¬ ((1 : Int32) < 0 ∨ cl10.slots.size ≤ ((1 : Int32)).toNatClampNeg) := inb_of S10 ⟨by decide, by decide⟩
  obtain ⟨T10, h10, X10, e10, W10, st10⟩ := stJ X8 hx hZ e8 Ar10 (j := (1 : Int32)) hin10 (g := (mkF m 65 #[.val (.ref ar), .val (.int (0 : Int32)), .val (.int (4 : Int32)), .val (.int (0 : Int32)), .val (.int (3 : Int32)), .val (.long x3), .second] [(.long x3), (.int (1 : Int32)), (.ref ar)])) rfl rfl (hb hby d4_65)
  have V10 : Arv Z h10 ar ka .long (4 : Int32) [(.long x0), (.long x3), (.long x1), (.long x2)] (.long (0 : Int64)) := Arv.set Ar10 q10 S10 M10 H10 G10 rfl W10 1 rfl (Nat.le_of_ble_eq_true rfl)
  have N10 := Fr.snoc X10 N8 g_ar
  refine ⟨T10, h10, _, X10, e10, N10, ((((Keep.refl h0 [ar]).wr W5 (Or.inl (List.mem_of_getElem? (i := 0) rfl))).wr W8 (Or.inl (List.mem_of_getElem? (i := 0) rfl))).wr W10 (Or.inl (List.mem_of_getElem? (i := 0) rfl))), V10, fun target kt => ?_⟩
  show Steps p.tables e below (T0.setTop (mkF m 3 #[.val (.ref ar), .val (.int (0 : Int32)), .val (.int (4 : Int32)), .val (.int j0), .val (.int (2 : Int32)), .val (.long v0), .second] [])) _
  refine XS.iinc X0.here hx rfl (hb hby d4_3) rfl (l' := #[.val (.ref ar), .val (.int (0 : Int32)), .val (.int (4 : Int32)), .val (.int j0), .val (.int ((2 : Int32) + (1 : Int32))), .val (.long v0), .second]) rfl ?_
  show Steps p.tables e below (T0.setTop (mkF m 6 #[.val (.ref ar), .val (.int (0 : Int32)), .val (.int (4 : Int32)), .val (.int j0), .val (.int ((2 : Int32) + (1 : Int32))), .val (.long v0), .second] [])) _
  rw [show ((2 : Int32) + (1 : Int32)) = (3 : Int32) from by decide]
  show Steps p.tables e below (T0.setTop (mkF m 6 #[.val (.ref ar), .val (.int (0 : Int32)), .val (.int (4 : Int32)), .val (.int j0), .val (.int (3 : Int32)), .val (.long v0), .second] [])) _
  refine XS.iload X0.here hx rfl (hb hby d4_6) rfl ?_
  show Steps p.tables e below (T0.setTop (mkF m 8 #[.val (.ref ar), .val (.int (0 : Int32)), .val (.int (4 : Int32)), .val (.int j0), .val (.int (3 : Int32)), .val (.long v0), .second] [(.int (3 : Int32))])) _
  refine XS.iloadN X0.here hx rfl (hb hby d4_8) rfl ?_
  show Steps p.tables e below (T0.setTop (mkF m 9 #[.val (.ref ar), .val (.int (0 : Int32)), .val (.int (4 : Int32)), .val (.int j0), .val (.int (3 : Int32)), .val (.long v0), .second] [(.int (4 : Int32)), (.int (3 : Int32))])) _
  refine XS.icmpNo X0.here hx rfl (hb hby d4_9) rfl (tlt (by decide : (3 : Int32) < (4 : Int32))).2.1 ?_
  show Steps p.tables e below (T0.setTop (mkF m 12 #[.val (.ref ar), .val (.int (0 : Int32)), .val (.int (4 : Int32)), .val (.int j0), .val (.int (3 : Int32)), .val (.long v0), .second] [])) _
  refine XS.aloadN X0.here hx rfl (hb hby d4_12) rfl rfl ?_
  show Steps p.tables e below (T0.setTop (mkF m 13 #[.val (.ref ar), .val (.int (0 : Int32)), .val (.int (4 : Int32)), .val (.int j0), .val (.int (3 : Int32)), .val (.long v0), .second] [(.ref ar)])) _
  refine XS.iload X0.here hx rfl (hb hby d4_13) rfl ?_
  show Steps p.tables e below (T0.setTop (mkF m 15 #[.val (.ref ar), .val (.int (0 : Int32)), .val (.int (4 : Int32)), .val (.int j0), .val (.int (3 : Int32)), .val (.long v0), .second] [(.int (3 : Int32)), (.ref ar)])) _
  refine XS.dup X0.here hx rfl (hb hby d4_15) rfl rfl ?_
  show Steps p.tables e below (T0.setTop (mkF m 16 #[.val (.ref ar), .val (.int (0 : Int32)), .val (.int (4 : Int32)), .val (.int j0), .val (.int (3 : Int32)), .val (.long v0), .second] [(.int (3 : Int32)), (.int (3 : Int32)), (.ref ar)])) _
  refine XS.istoreN X0.here hx rfl (hb hby d4_16) rfl (l' := #[.val (.ref ar), .val (.int (0 : Int32)), .val (.int (4 : Int32)), .val (.int (3 : Int32)), .val (.int (3 : Int32)), .val (.long v0), .second]) rfl ?_
  show Steps p.tables e below (T0.setTop (mkF m 17 #[.val (.ref ar), .val (.int (0 : Int32)), .val (.int (4 : Int32)), .val (.int (3 : Int32)), .val (.int (3 : Int32)), .val (.long v0), .second] [(.int (3 : Int32)), (.ref ar)])) _
  refine X0.laload hx (j := (3 : Int32)) (v := (.long x3)) (by rw [e0]; exact Ar1.1) (State.isArrayOf_alike hZ.alike Ar1.2.1) Ar1.2.2 hin1 hat1 (g := (mkF m 17 #[.val (.ref ar), .val (.int (0 : Int32)), .val (.int (4 : Int32)), .val (.int (3 : Int32)), .val (.int (3 : Int32)), .val (.long v0), .second] [(.int (3 : Int32)), (.ref ar)])) rfl rfl (hb hby d4_17) _ ?_
  show Steps p.tables e below (T0.setTop (mkF m 18 #[.val (.ref ar), .val (.int (0 : Int32)), .val (.int (4 : Int32)), .val (.int (3 : Int32)), .val (.int (3 : Int32)), .val (.long v0), .second] [(.long x3)])) _
  refine XS.lstore X0.here hx rfl (hb hby d4_18) rfl (l' := #[.val (.ref ar), .val (.int (0 : Int32)), .val (.int (4 : Int32)), .val (.int (3 : Int32)), .val (.int (3 : Int32)), .val (.long x3), .second]) rfl ?_
  show Steps p.tables e below (T0.setTop (mkF m 20 #[.val (.ref ar), .val (.int (0 : Int32)), .val (.int (4 : Int32)), .val (.int (3 : Int32)), .val (.int (3 : Int32)), .val (.long x3), .second] [])) _
  refine XS.lload X0.here hx rfl (hb hby d4_20) rfl ?_
  show Steps p.tables e below (T0.setTop (mkF m 22 #[.val (.ref ar), .val (.int (0 : Int32)), .val (.int (4 : Int32)), .val (.int (3 : Int32)), .val (.int (3 : Int32)), .val (.long x3), .second] [(.long x3)])) _
  refine XS.aloadN X0.here hx rfl (hb hby d4_22) rfl rfl ?_
  show Steps p.tables e below (T0.setTop (mkF m 23 #[.val (.ref ar), .val (.int (0 : Int32)), .val (.int (4 : Int32)), .val (.int (3 : Int32)), .val (.int (3 : Int32)), .val (.long x3), .second] [(.ref ar), (.long x3)])) _
  refine XS.iloadN X0.here hx rfl (hb hby d4_23) rfl ?_
  show Steps p.tables e below (T0.setTop (mkF m 24 #[.val (.ref ar), .val (.int (0 : Int32)), .val (.int (4 : Int32)), .val (.int (3 : Int32)), .val (.int (3 : Int32)), .val (.long x3), .second] [(.int (3 : Int32)), (.ref ar), (.long x3)])) _
  refine XS.iconst X0.here hx rfl (hb hby d4_24) ?_
  show Steps p.tables e below (T0.setTop (mkF m 25 #[.val (.ref ar), .val (.int (0 : Int32)), .val (.int (4 : Int32)), .val (.int (3 : Int32)), .val (.int (3 : Int32)), .val (.long x3), .second] [(.int (1 : Int32)), (.int (3 : Int32)), (.ref ar), (.long x3)])) _
  refine XS.isub X0.here hx rfl (hb hby d4_25) rfl ?_
  show Steps p.tables e below (T0.setTop (mkF m 26 #[.val (.ref ar), .val (.int (0 : Int32)), .val (.int (4 : Int32)), .val (.int (3 : Int32)), .val (.int (3 : Int32)), .val (.long x3), .second] [(.int ((3 : Int32) - (1 : Int32))), (.ref ar), (.long x3)])) _
  rw [show ((3 : Int32) - (1 : Int32)) = (2 : Int32) from by decide]
  show Steps p.tables e below (T0.setTop (mkF m 26 #[.val (.ref ar), .val (.int (0 : Int32)), .val (.int (4 : Int32)), .val (.int (3 : Int32)), .val (.int (3 : Int32)), .val (.long x3), .second] [(.int (2 : Int32)), (.ref ar), (.long x3)])) _
  refine X0.laload hx (j := (2 : Int32)) (v := (.long x2)) (by rw [e0]; exact Ar2.1) (State.isArrayOf_alike hZ.alike Ar2.2.1) Ar2.2.2 hin2 hat2 (g := (mkF m 26 #[.val (.ref ar), .val (.int (0 : Int32)), .val (.int (4 : Int32)), .val (.int (3 : Int32)), .val (.int (3 : Int32)), .val (.long x3), .second] [(.int (2 : Int32)), (.ref ar), (.long x3)])) rfl rfl (hb hby d4_26) _ ?_
  show Steps p.tables e below (T0.setTop (mkF m 27 #[.val (.ref ar), .val (.int (0 : Int32)), .val (.int (4 : Int32)), .val (.int (3 : Int32)), .val (.int (3 : Int32)), .val (.long x3), .second] [(.long x2), (.long x3)])) _
  refine XS.lcmp X0.here hx rfl (hb hby d4_27) rfl ?_
  show Steps p.tables e below (T0.setTop (mkF m 28 #[.val (.ref ar), .val (.int (0 : Int32)), .val (.int (4 : Int32)), .val (.int (3 : Int32)), .val (.int (3 : Int32)), .val (.long x3), .second] [(.int (lcmpW x3 x2))])) _
  refine XS.ifNo X0.here hx rfl (hb hby d4_28) rfl ((if0 _ _).trans (tlt hc28).2.1) ?_
  show Steps p.tables e below (T0.setTop (mkF m 31 #[.val (.ref ar), .val (.int (0 : Int32)), .val (.int (4 : Int32)), .val (.int (3 : Int32)), .val (.int (3 : Int32)), .val (.long x3), .second] [])) _
  refine XS.iinc X0.here hx rfl (hb hby d4_31) rfl (l' := #[.val (.ref ar), .val (.int (0 : Int32)), .val (.int (4 : Int32)), .val (.int ((3 : Int32) + (-1 : Int32))), .val (.int (3 : Int32)), .val (.long x3), .second]) rfl ?_
  show Steps p.tables e below (T0.setTop (mkF m 34 #[.val (.ref ar), .val (.int (0 : Int32)), .val (.int (4 : Int32)), .val (.int ((3 : Int32) + (-1 : Int32))), .val (.int (3 : Int32)), .val (.long x3), .second] [])) _
  rw [show ((3 : Int32) + (-1 : Int32)) = (2 : Int32) from by decide]
  show Steps p.tables e below (T0.setTop (mkF m 34 #[.val (.ref ar), .val (.int (0 : Int32)), .val (.int (4 : Int32)), .val (.int (2 : Int32)), .val (.int (3 : Int32)), .val (.long x3), .second] [])) _
  refine XS.iloadN X0.here hx rfl (hb hby d4_34) rfl ?_
  show Steps p.tables e below (T0.setTop (mkF m 35 #[.val (.ref ar), .val (.int (0 : Int32)), .val (.int (4 : Int32)), .val (.int (2 : Int32)), .val (.int (3 : Int32)), .val (.long x3), .second] [(.int (2 : Int32))])) _
  refine XS.iloadN X0.here hx rfl (hb hby d4_35) rfl ?_
  show Steps p.tables e below (T0.setTop (mkF m 36 #[.val (.ref ar), .val (.int (0 : Int32)), .val (.int (4 : Int32)), .val (.int (2 : Int32)), .val (.int (3 : Int32)), .val (.long x3), .second] [(.int (0 : Int32)), (.int (2 : Int32))])) _
  refine XS.icmpNo X0.here hx rfl (hb hby d4_36) rfl (flt (by decide : ¬ ((2 : Int32) < (0 : Int32)))).1 ?_
  show Steps p.tables e below (T0.setTop (mkF m 39 #[.val (.ref ar), .val (.int (0 : Int32)), .val (.int (4 : Int32)), .val (.int (2 : Int32)), .val (.int (3 : Int32)), .val (.long x3), .second] [])) _
  refine XS.lload X0.here hx rfl (hb hby d4_39) rfl ?_
  show Steps p.tables e below (T0.setTop (mkF m 41 #[.val (.ref ar), .val (.int (0 : Int32)), .val (.int (4 : Int32)), .val (.int (2 : Int32)), .val (.int (3 : Int32)), .val (.long x3), .second] [(.long x3)])) _
  refine XS.aloadN X0.here hx rfl (hb hby d4_41) rfl rfl ?_
  show Steps p.tables e below (T0.setTop (mkF m 42 #[.val (.ref ar), .val (.int (0 : Int32)), .val (.int (4 : Int32)), .val (.int (2 : Int32)), .val (.int (3 : Int32)), .val (.long x3), .second] [(.ref ar), (.long x3)])) _
  refine XS.iloadN X0.here hx rfl (hb hby d4_42) rfl ?_
  show Steps p.tables e below (T0.setTop (mkF m 43 #[.val (.ref ar), .val (.int (0 : Int32)), .val (.int (4 : Int32)), .val (.int (2 : Int32)), .val (.int (3 : Int32)), .val (.long x3), .second] [(.int (2 : Int32)), (.ref ar), (.long x3)])) _
  refine X0.laload hx (j := (2 : Int32)) (v := (.long x2)) (by rw [e0]; exact Ar3.1) (State.isArrayOf_alike hZ.alike Ar3.2.1) Ar3.2.2 hin3 hat3 (g := (mkF m 43 #[.val (.ref ar), .val (.int (0 : Int32)), .val (.int (4 : Int32)), .val (.int (2 : Int32)), .val (.int (3 : Int32)), .val (.long x3), .second] [(.int (2 : Int32)), (.ref ar), (.long x3)])) rfl rfl (hb hby d4_43) _ ?_
  show Steps p.tables e below (T0.setTop (mkF m 44 #[.val (.ref ar), .val (.int (0 : Int32)), .val (.int (4 : Int32)), .val (.int (2 : Int32)), .val (.int (3 : Int32)), .val (.long x3), .second] [(.long x2), (.long x3)])) _
  refine XS.lcmp X0.here hx rfl (hb hby d4_44) rfl ?_
  show Steps p.tables e below (T0.setTop (mkF m 45 #[.val (.ref ar), .val (.int (0 : Int32)), .val (.int (4 : Int32)), .val (.int (2 : Int32)), .val (.int (3 : Int32)), .val (.long x3), .second] [(.int (lcmpW x3 x2))])) _
  refine XS.ifNo X0.here hx rfl (hb hby d4_45) rfl ((if0 _ _).trans (tlt hc28).2.1) ?_
  show Steps p.tables e below (T0.setTop (mkF m 48 #[.val (.ref ar), .val (.int (0 : Int32)), .val (.int (4 : Int32)), .val (.int (2 : Int32)), .val (.int (3 : Int32)), .val (.long x3), .second] [])) _
  refine XS.aloadN X0.here hx rfl (hb hby d4_48) rfl rfl ?_
  show Steps p.tables e below (T0.setTop (mkF m 49 #[.val (.ref ar), .val (.int (0 : Int32)), .val (.int (4 : Int32)), .val (.int (2 : Int32)), .val (.int (3 : Int32)), .val (.long x3), .second] [(.ref ar)])) _
  refine XS.iloadN X0.here hx rfl (hb hby d4_49) rfl ?_
  show Steps p.tables e below (T0.setTop (mkF m 50 #[.val (.ref ar), .val (.int (0 : Int32)), .val (.int (4 : Int32)), .val (.int (2 : Int32)), .val (.int (3 : Int32)), .val (.long x3), .second] [(.int (2 : Int32)), (.ref ar)])) _
  refine XS.iconst X0.here hx rfl (hb hby d4_50) ?_
  show Steps p.tables e below (T0.setTop (mkF m 51 #[.val (.ref ar), .val (.int (0 : Int32)), .val (.int (4 : Int32)), .val (.int (2 : Int32)), .val (.int (3 : Int32)), .val (.long x3), .second] [(.int (1 : Int32)), (.int (2 : Int32)), (.ref ar)])) _
  refine XS.iadd X0.here hx rfl (hb hby d4_51) rfl ?_
  show Steps p.tables e below (T0.setTop (mkF m 52 #[.val (.ref ar), .val (.int (0 : Int32)), .val (.int (4 : Int32)), .val (.int (2 : Int32)), .val (.int (3 : Int32)), .val (.long x3), .second] [(.int ((2 : Int32) + (1 : Int32))), (.ref ar)])) _
  rw [show ((2 : Int32) + (1 : Int32)) = (3 : Int32) from by decide]
  show Steps p.tables e below (T0.setTop (mkF m 52 #[.val (.ref ar), .val (.int (0 : Int32)), .val (.int (4 : Int32)), .val (.int (2 : Int32)), .val (.int (3 : Int32)), .val (.long x3), .second] [(.int (3 : Int32)), (.ref ar)])) _
  refine XS.aloadN X0.here hx rfl (hb hby d4_52) rfl rfl ?_
  show Steps p.tables e below (T0.setTop (mkF m 53 #[.val (.ref ar), .val (.int (0 : Int32)), .val (.int (4 : Int32)), .val (.int (2 : Int32)), .val (.int (3 : Int32)), .val (.long x3), .second] [(.ref ar), (.int (3 : Int32)), (.ref ar)])) _
  refine XS.iloadN X0.here hx rfl (hb hby d4_53) rfl ?_
  show Steps p.tables e below (T0.setTop (mkF m 54 #[.val (.ref ar), .val (.int (0 : Int32)), .val (.int (4 : Int32)), .val (.int (2 : Int32)), .val (.int (3 : Int32)), .val (.long x3), .second] [(.int (2 : Int32)), (.ref ar), (.int (3 : Int32)), (.ref ar)])) _
  refine X0.laload hx (j := (2 : Int32)) (v := (.long x2)) (by rw [e0]; exact Ar4.1) (State.isArrayOf_alike hZ.alike Ar4.2.1) Ar4.2.2 hin4 hat4 (g := (mkF m 54 #[.val (.ref ar), .val (.int (0 : Int32)), .val (.int (4 : Int32)), .val (.int (2 : Int32)), .val (.int (3 : Int32)), .val (.long x3), .second] [(.int (2 : Int32)), (.ref ar), (.int (3 : Int32)), (.ref ar)])) rfl rfl (hb hby d4_54) _ ?_
  show Steps p.tables e below (T0.setTop (mkF m 55 #[.val (.ref ar), .val (.int (0 : Int32)), .val (.int (4 : Int32)), .val (.int (2 : Int32)), .val (.int (3 : Int32)), .val (.long x3), .second] [(.long x2), (.int (3 : Int32)), (.ref ar)])) _
  refine st5 _ ?_
  show Steps p.tables e below (T5.setTop (mkF m 56 #[.val (.ref ar), .val (.int (0 : Int32)), .val (.int (4 : Int32)), .val (.int (2 : Int32)), .val (.int (3 : Int32)), .val (.long x3), .second] [])) _
  refine XS.goto X5.here hx rfl (pc0 := 56) (pc' := 31) rfl (hb hby d4_56) (by decide) (by decide) ?_
  show Steps p.tables e below (T5.setTop (mkF m 31 #[.val (.ref ar), .val (.int (0 : Int32)), .val (.int (4 : Int32)), .val (.int (2 : Int32)), .val (.int (3 : Int32)), .val (.long x3), .second] [])) _
  refine XS.iinc X5.here hx rfl (hb hby d4_31) rfl (l' := #[.val (.ref ar), .val (.int (0 : Int32)), .val (.int (4 : Int32)), .val (.int ((2 : Int32) + (-1 : Int32))), .val (.int (3 : Int32)), .val (.long x3), .second]) rfl ?_
  show Steps p.tables e below (T5.setTop (mkF m 34 #[.val (.ref ar), .val (.int (0 : Int32)), .val (.int (4 : Int32)), .val (.int ((2 : Int32) + (-1 : Int32))), .val (.int (3 : Int32)), .val (.long x3), .second] [])) _
  rw [show ((2 : Int32) + (-1 : Int32)) = (1 : Int32) from by decide]
  show Steps p.tables e below (T5.setTop (mkF m 34 #[.val (.ref ar), .val (.int (0 : Int32)), .val (.int (4 : Int32)), .val (.int (1 : Int32)), .val (.int (3 : Int32)), .val (.long x3), .second] [])) _
  refine XS.iloadN X5.here hx rfl (hb hby d4_34) rfl ?_
  show Steps p.tables e below (T5.setTop (mkF m 35 #[.val (.ref ar), .val (.int (0 : Int32)), .val (.int (4 : Int32)), .val (.int (1 : Int32)), .val (.int (3 : Int32)), .val (.long x3), .second] [(.int (1 : Int32))])) _
  refine XS.iloadN X5.here hx rfl (hb hby d4_35) rfl ?_
  show Steps p.tables e below (T5.setTop (mkF m 36 #[.val (.ref ar), .val (.int (0 : Int32)), .val (.int (4 : Int32)), .val (.int (1 : Int32)), .val (.int (3 : Int32)), .val (.long x3), .second] [(.int (0 : Int32)), (.int (1 : Int32))])) _
  refine XS.icmpNo X5.here hx rfl (hb hby d4_36) rfl (flt (by decide : ¬ ((1 : Int32) < (0 : Int32)))).1 ?_
  show Steps p.tables e below (T5.setTop (mkF m 39 #[.val (.ref ar), .val (.int (0 : Int32)), .val (.int (4 : Int32)), .val (.int (1 : Int32)), .val (.int (3 : Int32)), .val (.long x3), .second] [])) _
  refine XS.lload X5.here hx rfl (hb hby d4_39) rfl ?_
  show Steps p.tables e below (T5.setTop (mkF m 41 #[.val (.ref ar), .val (.int (0 : Int32)), .val (.int (4 : Int32)), .val (.int (1 : Int32)), .val (.int (3 : Int32)), .val (.long x3), .second] [(.long x3)])) _
  refine XS.aloadN X5.here hx rfl (hb hby d4_41) rfl rfl ?_
  show Steps p.tables e below (T5.setTop (mkF m 42 #[.val (.ref ar), .val (.int (0 : Int32)), .val (.int (4 : Int32)), .val (.int (1 : Int32)), .val (.int (3 : Int32)), .val (.long x3), .second] [(.ref ar), (.long x3)])) _
  refine XS.iloadN X5.here hx rfl (hb hby d4_42) rfl ?_
  show Steps p.tables e below (T5.setTop (mkF m 43 #[.val (.ref ar), .val (.int (0 : Int32)), .val (.int (4 : Int32)), .val (.int (1 : Int32)), .val (.int (3 : Int32)), .val (.long x3), .second] [(.int (1 : Int32)), (.ref ar), (.long x3)])) _
  refine X5.laload hx (j := (1 : Int32)) (v := (.long x1)) (by rw [e5]; exact Ar6.1) (State.isArrayOf_alike hZ.alike Ar6.2.1) Ar6.2.2 hin6 hat6 (g := (mkF m 43 #[.val (.ref ar), .val (.int (0 : Int32)), .val (.int (4 : Int32)), .val (.int (1 : Int32)), .val (.int (3 : Int32)), .val (.long x3), .second] [(.int (1 : Int32)), (.ref ar), (.long x3)])) rfl rfl (hb hby d4_43) _ ?_
  show Steps p.tables e below (T5.setTop (mkF m 44 #[.val (.ref ar), .val (.int (0 : Int32)), .val (.int (4 : Int32)), .val (.int (1 : Int32)), .val (.int (3 : Int32)), .val (.long x3), .second] [(.long x1), (.long x3)])) _
  refine XS.lcmp X5.here hx rfl (hb hby d4_44) rfl ?_
  show Steps p.tables e below (T5.setTop (mkF m 45 #[.val (.ref ar), .val (.int (0 : Int32)), .val (.int (4 : Int32)), .val (.int (1 : Int32)), .val (.int (3 : Int32)), .val (.long x3), .second] [(.int (lcmpW x3 x1))])) _
  refine XS.ifNo X5.here hx rfl (hb hby d4_45) rfl ((if0 _ _).trans (tlt hc45_2).2.1) ?_
  show Steps p.tables e below (T5.setTop (mkF m 48 #[.val (.ref ar), .val (.int (0 : Int32)), .val (.int (4 : Int32)), .val (.int (1 : Int32)), .val (.int (3 : Int32)), .val (.long x3), .second] [])) _
  refine XS.aloadN X5.here hx rfl (hb hby d4_48) rfl rfl ?_
  show Steps p.tables e below (T5.setTop (mkF m 49 #[.val (.ref ar), .val (.int (0 : Int32)), .val (.int (4 : Int32)), .val (.int (1 : Int32)), .val (.int (3 : Int32)), .val (.long x3), .second] [(.ref ar)])) _
  refine XS.iloadN X5.here hx rfl (hb hby d4_49) rfl ?_
  show Steps p.tables e below (T5.setTop (mkF m 50 #[.val (.ref ar), .val (.int (0 : Int32)), .val (.int (4 : Int32)), .val (.int (1 : Int32)), .val (.int (3 : Int32)), .val (.long x3), .second] [(.int (1 : Int32)), (.ref ar)])) _
  refine XS.iconst X5.here hx rfl (hb hby d4_50) ?_
  show Steps p.tables e below (T5.setTop (mkF m 51 #[.val (.ref ar), .val (.int (0 : Int32)), .val (.int (4 : Int32)), .val (.int (1 : Int32)), .val (.int (3 : Int32)), .val (.long x3), .second] [(.int (1 : Int32)), (.int (1 : Int32)), (.ref ar)])) _
  refine XS.iadd X5.here hx rfl (hb hby d4_51) rfl ?_
  show Steps p.tables e below (T5.setTop (mkF m 52 #[.val (.ref ar), .val (.int (0 : Int32)), .val (.int (4 : Int32)), .val (.int (1 : Int32)), .val (.int (3 : Int32)), .val (.long x3), .second] [(.int ((1 : Int32) + (1 : Int32))), (.ref ar)])) _
  rw [show ((1 : Int32) + (1 : Int32)) = (2 : Int32) from by decide]
  show Steps p.tables e below (T5.setTop (mkF m 52 #[.val (.ref ar), .val (.int (0 : Int32)), .val (.int (4 : Int32)), .val (.int (1 : Int32)), .val (.int (3 : Int32)), .val (.long x3), .second] [(.int (2 : Int32)), (.ref ar)])) _
  refine XS.aloadN X5.here hx rfl (hb hby d4_52) rfl rfl ?_
  show Steps p.tables e below (T5.setTop (mkF m 53 #[.val (.ref ar), .val (.int (0 : Int32)), .val (.int (4 : Int32)), .val (.int (1 : Int32)), .val (.int (3 : Int32)), .val (.long x3), .second] [(.ref ar), (.int (2 : Int32)), (.ref ar)])) _
  refine XS.iloadN X5.here hx rfl (hb hby d4_53) rfl ?_
  show Steps p.tables e below (T5.setTop (mkF m 54 #[.val (.ref ar), .val (.int (0 : Int32)), .val (.int (4 : Int32)), .val (.int (1 : Int32)), .val (.int (3 : Int32)), .val (.long x3), .second] [(.int (1 : Int32)), (.ref ar), (.int (2 : Int32)), (.ref ar)])) _
  refine X5.laload hx (j := (1 : Int32)) (v := (.long x1)) (by rw [e5]; exact Ar7.1) (State.isArrayOf_alike hZ.alike Ar7.2.1) Ar7.2.2 hin7 hat7 (g := (mkF m 54 #[.val (.ref ar), .val (.int (0 : Int32)), .val (.int (4 : Int32)), .val (.int (1 : Int32)), .val (.int (3 : Int32)), .val (.long x3), .second] [(.int (1 : Int32)), (.ref ar), (.int (2 : Int32)), (.ref ar)])) rfl rfl (hb hby d4_54) _ ?_
  show Steps p.tables e below (T5.setTop (mkF m 55 #[.val (.ref ar), .val (.int (0 : Int32)), .val (.int (4 : Int32)), .val (.int (1 : Int32)), .val (.int (3 : Int32)), .val (.long x3), .second] [(.long x1), (.int (2 : Int32)), (.ref ar)])) _
  refine st8 _ ?_
  show Steps p.tables e below (T8.setTop (mkF m 56 #[.val (.ref ar), .val (.int (0 : Int32)), .val (.int (4 : Int32)), .val (.int (1 : Int32)), .val (.int (3 : Int32)), .val (.long x3), .second] [])) _
  refine XS.goto X8.here hx rfl (pc0 := 56) (pc' := 31) rfl (hb hby d4_56) (by decide) (by decide) ?_
  show Steps p.tables e below (T8.setTop (mkF m 31 #[.val (.ref ar), .val (.int (0 : Int32)), .val (.int (4 : Int32)), .val (.int (1 : Int32)), .val (.int (3 : Int32)), .val (.long x3), .second] [])) _
  refine XS.iinc X8.here hx rfl (hb hby d4_31) rfl (l' := #[.val (.ref ar), .val (.int (0 : Int32)), .val (.int (4 : Int32)), .val (.int ((1 : Int32) + (-1 : Int32))), .val (.int (3 : Int32)), .val (.long x3), .second]) rfl ?_
  show Steps p.tables e below (T8.setTop (mkF m 34 #[.val (.ref ar), .val (.int (0 : Int32)), .val (.int (4 : Int32)), .val (.int ((1 : Int32) + (-1 : Int32))), .val (.int (3 : Int32)), .val (.long x3), .second] [])) _
  rw [show ((1 : Int32) + (-1 : Int32)) = (0 : Int32) from by decide]
  show Steps p.tables e below (T8.setTop (mkF m 34 #[.val (.ref ar), .val (.int (0 : Int32)), .val (.int (4 : Int32)), .val (.int (0 : Int32)), .val (.int (3 : Int32)), .val (.long x3), .second] [])) _
  refine XS.iloadN X8.here hx rfl (hb hby d4_34) rfl ?_
  show Steps p.tables e below (T8.setTop (mkF m 35 #[.val (.ref ar), .val (.int (0 : Int32)), .val (.int (4 : Int32)), .val (.int (0 : Int32)), .val (.int (3 : Int32)), .val (.long x3), .second] [(.int (0 : Int32))])) _
  refine XS.iloadN X8.here hx rfl (hb hby d4_35) rfl ?_
  show Steps p.tables e below (T8.setTop (mkF m 36 #[.val (.ref ar), .val (.int (0 : Int32)), .val (.int (4 : Int32)), .val (.int (0 : Int32)), .val (.int (3 : Int32)), .val (.long x3), .second] [(.int (0 : Int32)), (.int (0 : Int32))])) _
  refine XS.icmpNo X8.here hx rfl (hb hby d4_36) rfl (flt (by decide : ¬ ((0 : Int32) < (0 : Int32)))).1 ?_
  show Steps p.tables e below (T8.setTop (mkF m 39 #[.val (.ref ar), .val (.int (0 : Int32)), .val (.int (4 : Int32)), .val (.int (0 : Int32)), .val (.int (3 : Int32)), .val (.long x3), .second] [])) _
  refine XS.lload X8.here hx rfl (hb hby d4_39) rfl ?_
  show Steps p.tables e below (T8.setTop (mkF m 41 #[.val (.ref ar), .val (.int (0 : Int32)), .val (.int (4 : Int32)), .val (.int (0 : Int32)), .val (.int (3 : Int32)), .val (.long x3), .second] [(.long x3)])) _
  refine XS.aloadN X8.here hx rfl (hb hby d4_41) rfl rfl ?_
  show Steps p.tables e below (T8.setTop (mkF m 42 #[.val (.ref ar), .val (.int (0 : Int32)), .val (.int (4 : Int32)), .val (.int (0 : Int32)), .val (.int (3 : Int32)), .val (.long x3), .second] [(.ref ar), (.long x3)])) _
  refine XS.iloadN X8.here hx rfl (hb hby d4_42) rfl ?_
  show Steps p.tables e below (T8.setTop (mkF m 43 #[.val (.ref ar), .val (.int (0 : Int32)), .val (.int (4 : Int32)), .val (.int (0 : Int32)), .val (.int (3 : Int32)), .val (.long x3), .second] [(.int (0 : Int32)), (.ref ar), (.long x3)])) _
  refine X8.laload hx (j := (0 : Int32)) (v := (.long x0)) (by rw [e8]; exact Ar9.1) (State.isArrayOf_alike hZ.alike Ar9.2.1) Ar9.2.2 hin9 hat9 (g := (mkF m 43 #[.val (.ref ar), .val (.int (0 : Int32)), .val (.int (4 : Int32)), .val (.int (0 : Int32)), .val (.int (3 : Int32)), .val (.long x3), .second] [(.int (0 : Int32)), (.ref ar), (.long x3)])) rfl rfl (hb hby d4_43) _ ?_
  show Steps p.tables e below (T8.setTop (mkF m 44 #[.val (.ref ar), .val (.int (0 : Int32)), .val (.int (4 : Int32)), .val (.int (0 : Int32)), .val (.int (3 : Int32)), .val (.long x3), .second] [(.long x0), (.long x3)])) _
  refine XS.lcmp X8.here hx rfl (hb hby d4_44) rfl ?_
  show Steps p.tables e below (T8.setTop (mkF m 45 #[.val (.ref ar), .val (.int (0 : Int32)), .val (.int (4 : Int32)), .val (.int (0 : Int32)), .val (.int (3 : Int32)), .val (.long x3), .second] [(.int (lcmpW x3 x0))])) _
  refine XS.ifYes X8.here hx rfl (pc0 := 45) (pc' := 59) rfl (hb hby d4_45) rfl ((if0 _ _).trans (flt hc45_3).2.1) (by decide) (by decide) ?_
  show Steps p.tables e below (T8.setTop (mkF m 59 #[.val (.ref ar), .val (.int (0 : Int32)), .val (.int (4 : Int32)), .val (.int (0 : Int32)), .val (.int (3 : Int32)), .val (.long x3), .second] [])) _
  refine XS.aloadN X8.here hx rfl (hb hby d4_59) rfl rfl ?_
  show Steps p.tables e below (T8.setTop (mkF m 60 #[.val (.ref ar), .val (.int (0 : Int32)), .val (.int (4 : Int32)), .val (.int (0 : Int32)), .val (.int (3 : Int32)), .val (.long x3), .second] [(.ref ar)])) _
  refine XS.iloadN X8.here hx rfl (hb hby d4_60) rfl ?_
  show Steps p.tables e below (T8.setTop (mkF m 61 #[.val (.ref ar), .val (.int (0 : Int32)), .val (.int (4 : Int32)), .val (.int (0 : Int32)), .val (.int (3 : Int32)), .val (.long x3), .second] [(.int (0 : Int32)), (.ref ar)])) _
  refine XS.iconst X8.here hx rfl (hb hby d4_61) ?_
  show Steps p.tables e below (T8.setTop (mkF m 62 #[.val (.ref ar), .val (.int (0 : Int32)), .val (.int (4 : Int32)), .val (.int (0 : Int32)), .val (.int (3 : Int32)), .val (.long x3), .second] [(.int (1 : Int32)), (.int (0 : Int32)), (.ref ar)])) _
  refine XS.iadd X8.here hx rfl (hb hby d4_62) rfl ?_
  show Steps p.tables e below (T8.setTop (mkF m 63 #[.val (.ref ar), .val (.int (0 : Int32)), .val (.int (4 : Int32)), .val (.int (0 : Int32)), .val (.int (3 : Int32)), .val (.long x3), .second] [(.int ((0 : Int32) + (1 : Int32))), (.ref ar)])) _
  rw [show ((0 : Int32) + (1 : Int32)) = (1 : Int32) from by decide]
  show Steps p.tables e below (T8.setTop (mkF m 63 #[.val (.ref ar), .val (.int (0 : Int32)), .val (.int (4 : Int32)), .val (.int (0 : Int32)), .val (.int (3 : Int32)), .val (.long x3), .second] [(.int (1 : Int32)), (.ref ar)])) _
  refine XS.lload X8.here hx rfl (hb hby d4_63) rfl ?_
  show Steps p.tables e below (T8.setTop (mkF m 65 #[.val (.ref ar), .val (.int (0 : Int32)), .val (.int (4 : Int32)), .val (.int (0 : Int32)), .val (.int (3 : Int32)), .val (.long x3), .second] [(.long x3), (.int (1 : Int32)), (.ref ar)])) _
  refine st10 _ ?_
  show Steps p.tables e below (T10.setTop (mkF m 66 #[.val (.ref ar), .val (.int (0 : Int32)), .val (.int (4 : Int32)), .val (.int (0 : Int32)), .val (.int (3 : Int32)), .val (.long x3), .second] [])) _
  refine XS.goto X10.here hx rfl (pc0 := 66) (pc' := 3) rfl (hb hby d4_66) (by decide) (by decide) ?_
  exact kt
set_option maxRecDepth 65536 in
set_option maxHeartbeats 40000000 in
theorem tn4_3_3 {p : Program} {l : Launch} {e : Env} {R : Room} {s : State} {m : MethodId} {args : Array Value} {below : List Frame} {meth : Method} {c : Code} {T0 : State} {locs : List Loc} {cells slots : Nat} {Z : State} {a0 : Array Value} {h0 : Heap} {n0 : Nat} (ka : ClassId) (x0 : Int64) (x1 : Int64) (x2 : Int64) (x3 : Int64) (ar : Addr) (j0 : Int32) (v0 : Int64)
    (X0 : Stand p l e R s m args below meth c T0 locs cells slots) (hx : p.tables.exec = Jvm.exec) (hZ : Z.Warmed39 s.vm) (hw : ∀ d ∈ tables_1, d.before a0 Z = true) (hby : c.code = jdk_2529_method_15_code) (hml : c.maxLocals = 7) (hown : s.vm.findClass "java/util/DualPivotQuicksort" = some m.cls) (e0 : T0.heap = h0) (N0 : Fr n0 locs) (Z0 : n0 ≤ h0.size) (V_ar : Arv Z h0 ar ka .long (4 : Int32) [(.long x0), (.long x1), (.long x2), (.long x3)] (.long (0 : Int64))) (hc28 : (lcmpW x3 x2) < (0 : Int32)) (g_ar : n0 ≤ ar) (hc45_2 : (lcmpW x3 x1) < (0 : Int32)) (hc45_3 : (lcmpW x3 x0) < (0 : Int32)) :
    ∃ (T' : State) (h' : Heap) (locs' : List Loc), Stand p l e R s m args below meth c T' locs' cells slots ∧ T'.heap = h' ∧ Fr n0 locs' ∧ Keep h0 h' [ar] ∧ Arv Z h' ar ka .long (4 : Int32) [(.long x3), (.long x0), (.long x1), (.long x2)] (.long (0 : Int64)) ∧ ∀ target, Steps p.tables e below (T'.setTop (mkF m 3 #[.val (.ref ar), .val (.int (0 : Int32)), .val (.int (4 : Int32)), .val (.int (-1 : Int32)), .val (.int (3 : Int32)), .val (.long x3), .second] [])) target → Steps p.tables e below (T0.setTop (mkF m 3 #[.val (.ref ar), .val (.int (0 : Int32)), .val (.int (4 : Int32)), .val (.int j0), .val (.int (2 : Int32)), .val (.long v0), .second] [])) target := by
  have Vc1 := V_ar
  obtain ⟨cl1, Ar1, q1, S1, M1, H1, G1⟩ := Vc1
  have hin1 : ¬ ((3 : Int32) < 0 ∨ cl1.slots.size ≤ ((3 : Int32)).toNatClampNeg) := inb_of S1 ⟨by decide, by decide⟩
  have hat1 : cl1.slots[((3 : Int32)).toNatClampNeg]? = some (.long x3) := Has.at H1 hin1 rfl
  have Vc2 := V_ar
  obtain ⟨cl2, Ar2, q2, S2, M2, H2, G2⟩ := Vc2
  have hin2 : ¬ ((2 : Int32) < 0 ∨ cl2.slots.size ≤ ((2 : Int32)).toNatClampNeg) := inb_of S2 ⟨by decide, by decide⟩
  have hat2 : cl2.slots[((2 : Int32)).toNatClampNeg]? = some (.long x2) := Has.at H2 hin2 rfl
  have Vc3 := V_ar
  obtain ⟨cl3, Ar3, q3, S3, M3, H3, G3⟩ := Vc3
  have hin3 : ¬ ((2 : Int32) < 0 ∨ cl3.slots.size ≤ ((2 : Int32)).toNatClampNeg) := inb_of S3 ⟨by decide, by decide⟩
  have hat3 : cl3.slots[((2 : Int32)).toNatClampNeg]? = some (.long x2) := Has.at H3 hin3 rfl
  have Vc4 := V_ar
  obtain ⟨cl4, Ar4, q4, S4, M4, H4, G4⟩ := Vc4
  have hin4 : ¬ ((2 : Int32) < 0 ∨ cl4.slots.size ≤ ((2 : Int32)).toNatClampNeg) := inb_of S4 ⟨by decide, by decide⟩
  have hat4 : cl4.slots[((2 : Int32)).toNatClampNeg]? = some (.long x2) := Has.at H4 hin4 rfl
  have Vc5 := V_ar
  obtain ⟨cl5, Ar5, q5, S5, M5, H5, G5⟩ := Vc5
  have hin5 : ¬ ((3 : Int32) < 0 ∨ cl5.slots.size ≤ ((3 : Int32)).toNatClampNeg) := inb_of S5 ⟨by decide, by decide⟩
  obtain ⟨T5, h5, X5, e5, W5, st5⟩ := stJ X0 hx hZ e0 Ar5 (j := (3 : Int32)) hin5 (g := (mkF m 55 #[.val (.ref ar), .val (.int (0 : Int32)), .val (.int (4 : Int32)), .val (.int (2 : Int32)), .val (.int (3 : Int32)), .val (.long x3), .second] [(.long x2), (.int (3 : Int32)), (.ref ar)])) rfl rfl (hb hby d4_55)
  have V5 : Arv Z h5 ar ka .long (4 : Int32) [(.long x0), (.long x1), (.long x2), (.long x2)] (.long (0 : Int64)) := Arv.set Ar5 q5 S5 M5 H5 G5 rfl W5 3 rfl (Nat.le_of_ble_eq_true rfl)
  have N5 := Fr.snoc X5 N0 g_ar
  have Vc6 := V5
  obtain ⟨cl6, Ar6, q6, S6, M6, H6, G6⟩ := Vc6
  have hin6 : ¬ ((1 : Int32) < 0 ∨ cl6.slots.size ≤ ((1 : Int32)).toNatClampNeg) := inb_of S6 ⟨by decide, by decide⟩
  have hat6 : cl6.slots[((1 : Int32)).toNatClampNeg]? = some (.long x1) := Has.at H6 hin6 rfl
  have Vc7 := V5
  obtain ⟨cl7, Ar7, q7, S7, M7, H7, G7⟩ := Vc7
  have hin7 : ¬ ((1 : Int32) < 0 ∨ cl7.slots.size ≤ ((1 : Int32)).toNatClampNeg) := inb_of S7 ⟨by decide, by decide⟩
  have hat7 : cl7.slots[((1 : Int32)).toNatClampNeg]? = some (.long x1) := Has.at H7 hin7 rfl
  have Vc8 := V5
  obtain ⟨cl8, Ar8, q8, S8, M8, H8, G8⟩ := Vc8
  have hin8 : ¬ ((2 : Int32) < 0 ∨ cl8.slots.size ≤ ((2 : Int32)).toNatClampNeg) := inb_of S8 ⟨by decide, by decide⟩
  obtain ⟨T8, h8, X8, e8, W8, st8⟩ := stJ X5 hx hZ e5 Ar8 (j := (2 : Int32)) hin8 (g := (mkF m 55 #[.val (.ref ar), .val (.int (0 : Int32)), .val (.int (4 : Int32)), .val (.int (1 : Int32)), .val (.int (3 : Int32)), .val (.long x3), .second] [(.long x1), (.int (2 : Int32)), (.ref ar)])) rfl rfl (hb hby d4_55)
  have V8 : Arv Z h8 ar ka .long (4 : Int32) [(.long x0), (.long x1), (.long x1), (.long x2)] (.long (0 : Int64)) := Arv.set Ar8 q8 S8 M8 H8 G8 rfl W8 2 rfl (Nat.le_of_ble_eq_true rfl)
  have N8 := Fr.snoc X8 N5 g_ar
  have Vc9 := V8
  obtain ⟨cl9, Ar9, q9, S9, M9, H9, G9⟩ := Vc9
  have hin9 : ¬ ((0 : Int32) < 0 ∨ cl9.slots.size ≤ ((0 : Int32)).toNatClampNeg) := inb_of S9 ⟨by decide, by decide⟩
  have hat9 : cl9.slots[((0 : Int32)).toNatClampNeg]? = some (.long x0) := Has.at H9 hin9 rfl
  have Vc10 := V8
  obtain ⟨cl10, Ar10, q10, S10, M10, H10, G10⟩ := Vc10
  have hin10 : ¬ ((0 : Int32) < 0 ∨ cl10.slots.size ≤ ((0 : Int32)).toNatClampNeg) := inb_of S10 ⟨by decide, by decide⟩
  have hat10 : cl10.slots[((0 : Int32)).toNatClampNeg]? = some (.long x0) := Has.at H10 hin10 rfl
  have Vc11 := V8
  obtain ⟨cl11, Ar11, q11, S11, M11, H11, G11⟩ := Vc11
  have hin11 : ¬ ((1 : Int32) < 0 ∨ cl11.slots.size ≤ ((1 : Int32)).toNatClampNeg) := inb_of S11 ⟨by decide, by decide⟩
  obtain ⟨T11, h11, X11, e11, W11, st11⟩ := stJ X8 hx hZ e8 Ar11 (j := (1 : Int32)) hin11 (g := (mkF m 55 #[.val (.ref ar), .val (.int (0 : Int32)), .val (.int (4 : Int32)), .val (.int (0 : Int32)), .val (.int (3 : Int32)), .val (.long x3), .second] [(.long x0), (.int (1 : Int32)), (.ref ar)])) rfl rfl (hb hby d4_55)
  have V11 : Arv Z h11 ar ka .long (4 : Int32) [(.long x0), (.long x0), (.long x1), (.long x2)] (.long (0 : Int64)) := Arv.set Ar11 q11 S11 M11 H11 G11 rfl W11 1 rfl (Nat.le_of_ble_eq_true rfl)
  have N11 := Fr.snoc X11 N8 g_ar
  have Vc12 := V11
  obtain ⟨cl12, Ar12, q12, S12, M12, H12, G12⟩ := Vc12
  have hin12 : ¬ ((0 : Int32) < 0 ∨ cl12.slots.size ≤ ((0 : Int32)).toNatClampNeg) := inb_of S12 ⟨by decide, by decide⟩
  obtain ⟨T12, h12, X12, e12, W12, st12⟩ := stJ X11 hx hZ e11 Ar12 (j := (0 : Int32)) hin12 (g := (mkF m 65 #[.val (.ref ar), .val (.int (0 : Int32)), .val (.int (4 : Int32)), .val (.int (-1 : Int32)), .val (.int (3 : Int32)), .val (.long x3), .second] [(.long x3), (.int (0 : Int32)), (.ref ar)])) rfl rfl (hb hby d4_65)
  have V12 : Arv Z h12 ar ka .long (4 : Int32) [(.long x3), (.long x0), (.long x1), (.long x2)] (.long (0 : Int64)) := Arv.set Ar12 q12 S12 M12 H12 G12 rfl W12 0 rfl (Nat.le_of_ble_eq_true rfl)
  have N12 := Fr.snoc X12 N11 g_ar
  refine ⟨T12, h12, _, X12, e12, N12, (((((Keep.refl h0 [ar]).wr W5 (Or.inl (List.mem_of_getElem? (i := 0) rfl))).wr W8 (Or.inl (List.mem_of_getElem? (i := 0) rfl))).wr W11 (Or.inl (List.mem_of_getElem? (i := 0) rfl))).wr W12 (Or.inl (List.mem_of_getElem? (i := 0) rfl))), V12, fun target kt => ?_⟩
  show Steps p.tables e below (T0.setTop (mkF m 3 #[.val (.ref ar), .val (.int (0 : Int32)), .val (.int (4 : Int32)), .val (.int j0), .val (.int (2 : Int32)), .val (.long v0), .second] [])) _
  refine XS.iinc X0.here hx rfl (hb hby d4_3) rfl (l' := #[.val (.ref ar), .val (.int (0 : Int32)), .val (.int (4 : Int32)), .val (.int j0), .val (.int ((2 : Int32) + (1 : Int32))), .val (.long v0), .second]) rfl ?_
  show Steps p.tables e below (T0.setTop (mkF m 6 #[.val (.ref ar), .val (.int (0 : Int32)), .val (.int (4 : Int32)), .val (.int j0), .val (.int ((2 : Int32) + (1 : Int32))), .val (.long v0), .second] [])) _
  rw [show ((2 : Int32) + (1 : Int32)) = (3 : Int32) from by decide]
  show Steps p.tables e below (T0.setTop (mkF m 6 #[.val (.ref ar), .val (.int (0 : Int32)), .val (.int (4 : Int32)), .val (.int j0), .val (.int (3 : Int32)), .val (.long v0), .second] [])) _
  refine XS.iload X0.here hx rfl (hb hby d4_6) rfl ?_
  show Steps p.tables e below (T0.setTop (mkF m 8 #[.val (.ref ar), .val (.int (0 : Int32)), .val (.int (4 : Int32)), .val (.int j0), .val (.int (3 : Int32)), .val (.long v0), .second] [(.int (3 : Int32))])) _
  refine XS.iloadN X0.here hx rfl (hb hby d4_8) rfl ?_
  show Steps p.tables e below (T0.setTop (mkF m 9 #[.val (.ref ar), .val (.int (0 : Int32)), .val (.int (4 : Int32)), .val (.int j0), .val (.int (3 : Int32)), .val (.long v0), .second] [(.int (4 : Int32)), (.int (3 : Int32))])) _
  refine XS.icmpNo X0.here hx rfl (hb hby d4_9) rfl (tlt (by decide : (3 : Int32) < (4 : Int32))).2.1 ?_
  show Steps p.tables e below (T0.setTop (mkF m 12 #[.val (.ref ar), .val (.int (0 : Int32)), .val (.int (4 : Int32)), .val (.int j0), .val (.int (3 : Int32)), .val (.long v0), .second] [])) _
  refine XS.aloadN X0.here hx rfl (hb hby d4_12) rfl rfl ?_
  show Steps p.tables e below (T0.setTop (mkF m 13 #[.val (.ref ar), .val (.int (0 : Int32)), .val (.int (4 : Int32)), .val (.int j0), .val (.int (3 : Int32)), .val (.long v0), .second] [(.ref ar)])) _
  refine XS.iload X0.here hx rfl (hb hby d4_13) rfl ?_
  show Steps p.tables e below (T0.setTop (mkF m 15 #[.val (.ref ar), .val (.int (0 : Int32)), .val (.int (4 : Int32)), .val (.int j0), .val (.int (3 : Int32)), .val (.long v0), .second] [(.int (3 : Int32)), (.ref ar)])) _
  refine XS.dup X0.here hx rfl (hb hby d4_15) rfl rfl ?_
  show Steps p.tables e below (T0.setTop (mkF m 16 #[.val (.ref ar), .val (.int (0 : Int32)), .val (.int (4 : Int32)), .val (.int j0), .val (.int (3 : Int32)), .val (.long v0), .second] [(.int (3 : Int32)), (.int (3 : Int32)), (.ref ar)])) _
  refine XS.istoreN X0.here hx rfl (hb hby d4_16) rfl (l' := #[.val (.ref ar), .val (.int (0 : Int32)), .val (.int (4 : Int32)), .val (.int (3 : Int32)), .val (.int (3 : Int32)), .val (.long v0), .second]) rfl ?_
  show Steps p.tables e below (T0.setTop (mkF m 17 #[.val (.ref ar), .val (.int (0 : Int32)), .val (.int (4 : Int32)), .val (.int (3 : Int32)), .val (.int (3 : Int32)), .val (.long v0), .second] [(.int (3 : Int32)), (.ref ar)])) _
  refine X0.laload hx (j := (3 : Int32)) (v := (.long x3)) (by rw [e0]; exact Ar1.1) (State.isArrayOf_alike hZ.alike Ar1.2.1) Ar1.2.2 hin1 hat1 (g := (mkF m 17 #[.val (.ref ar), .val (.int (0 : Int32)), .val (.int (4 : Int32)), .val (.int (3 : Int32)), .val (.int (3 : Int32)), .val (.long v0), .second] [(.int (3 : Int32)), (.ref ar)])) rfl rfl (hb hby d4_17) _ ?_
  show Steps p.tables e below (T0.setTop (mkF m 18 #[.val (.ref ar), .val (.int (0 : Int32)), .val (.int (4 : Int32)), .val (.int (3 : Int32)), .val (.int (3 : Int32)), .val (.long v0), .second] [(.long x3)])) _
  refine XS.lstore X0.here hx rfl (hb hby d4_18) rfl (l' := #[.val (.ref ar), .val (.int (0 : Int32)), .val (.int (4 : Int32)), .val (.int (3 : Int32)), .val (.int (3 : Int32)), .val (.long x3), .second]) rfl ?_
  show Steps p.tables e below (T0.setTop (mkF m 20 #[.val (.ref ar), .val (.int (0 : Int32)), .val (.int (4 : Int32)), .val (.int (3 : Int32)), .val (.int (3 : Int32)), .val (.long x3), .second] [])) _
  refine XS.lload X0.here hx rfl (hb hby d4_20) rfl ?_
  show Steps p.tables e below (T0.setTop (mkF m 22 #[.val (.ref ar), .val (.int (0 : Int32)), .val (.int (4 : Int32)), .val (.int (3 : Int32)), .val (.int (3 : Int32)), .val (.long x3), .second] [(.long x3)])) _
  refine XS.aloadN X0.here hx rfl (hb hby d4_22) rfl rfl ?_
  show Steps p.tables e below (T0.setTop (mkF m 23 #[.val (.ref ar), .val (.int (0 : Int32)), .val (.int (4 : Int32)), .val (.int (3 : Int32)), .val (.int (3 : Int32)), .val (.long x3), .second] [(.ref ar), (.long x3)])) _
  refine XS.iloadN X0.here hx rfl (hb hby d4_23) rfl ?_
  show Steps p.tables e below (T0.setTop (mkF m 24 #[.val (.ref ar), .val (.int (0 : Int32)), .val (.int (4 : Int32)), .val (.int (3 : Int32)), .val (.int (3 : Int32)), .val (.long x3), .second] [(.int (3 : Int32)), (.ref ar), (.long x3)])) _
  refine XS.iconst X0.here hx rfl (hb hby d4_24) ?_
  show Steps p.tables e below (T0.setTop (mkF m 25 #[.val (.ref ar), .val (.int (0 : Int32)), .val (.int (4 : Int32)), .val (.int (3 : Int32)), .val (.int (3 : Int32)), .val (.long x3), .second] [(.int (1 : Int32)), (.int (3 : Int32)), (.ref ar), (.long x3)])) _
  refine XS.isub X0.here hx rfl (hb hby d4_25) rfl ?_
  show Steps p.tables e below (T0.setTop (mkF m 26 #[.val (.ref ar), .val (.int (0 : Int32)), .val (.int (4 : Int32)), .val (.int (3 : Int32)), .val (.int (3 : Int32)), .val (.long x3), .second] [(.int ((3 : Int32) - (1 : Int32))), (.ref ar), (.long x3)])) _
  rw [show ((3 : Int32) - (1 : Int32)) = (2 : Int32) from by decide]
  show Steps p.tables e below (T0.setTop (mkF m 26 #[.val (.ref ar), .val (.int (0 : Int32)), .val (.int (4 : Int32)), .val (.int (3 : Int32)), .val (.int (3 : Int32)), .val (.long x3), .second] [(.int (2 : Int32)), (.ref ar), (.long x3)])) _
  refine X0.laload hx (j := (2 : Int32)) (v := (.long x2)) (by rw [e0]; exact Ar2.1) (State.isArrayOf_alike hZ.alike Ar2.2.1) Ar2.2.2 hin2 hat2 (g := (mkF m 26 #[.val (.ref ar), .val (.int (0 : Int32)), .val (.int (4 : Int32)), .val (.int (3 : Int32)), .val (.int (3 : Int32)), .val (.long x3), .second] [(.int (2 : Int32)), (.ref ar), (.long x3)])) rfl rfl (hb hby d4_26) _ ?_
  show Steps p.tables e below (T0.setTop (mkF m 27 #[.val (.ref ar), .val (.int (0 : Int32)), .val (.int (4 : Int32)), .val (.int (3 : Int32)), .val (.int (3 : Int32)), .val (.long x3), .second] [(.long x2), (.long x3)])) _
  refine XS.lcmp X0.here hx rfl (hb hby d4_27) rfl ?_
  show Steps p.tables e below (T0.setTop (mkF m 28 #[.val (.ref ar), .val (.int (0 : Int32)), .val (.int (4 : Int32)), .val (.int (3 : Int32)), .val (.int (3 : Int32)), .val (.long x3), .second] [(.int (lcmpW x3 x2))])) _
  refine XS.ifNo X0.here hx rfl (hb hby d4_28) rfl ((if0 _ _).trans (tlt hc28).2.1) ?_
  show Steps p.tables e below (T0.setTop (mkF m 31 #[.val (.ref ar), .val (.int (0 : Int32)), .val (.int (4 : Int32)), .val (.int (3 : Int32)), .val (.int (3 : Int32)), .val (.long x3), .second] [])) _
  refine XS.iinc X0.here hx rfl (hb hby d4_31) rfl (l' := #[.val (.ref ar), .val (.int (0 : Int32)), .val (.int (4 : Int32)), .val (.int ((3 : Int32) + (-1 : Int32))), .val (.int (3 : Int32)), .val (.long x3), .second]) rfl ?_
  show Steps p.tables e below (T0.setTop (mkF m 34 #[.val (.ref ar), .val (.int (0 : Int32)), .val (.int (4 : Int32)), .val (.int ((3 : Int32) + (-1 : Int32))), .val (.int (3 : Int32)), .val (.long x3), .second] [])) _
  rw [show ((3 : Int32) + (-1 : Int32)) = (2 : Int32) from by decide]
  show Steps p.tables e below (T0.setTop (mkF m 34 #[.val (.ref ar), .val (.int (0 : Int32)), .val (.int (4 : Int32)), .val (.int (2 : Int32)), .val (.int (3 : Int32)), .val (.long x3), .second] [])) _
  refine XS.iloadN X0.here hx rfl (hb hby d4_34) rfl ?_
  show Steps p.tables e below (T0.setTop (mkF m 35 #[.val (.ref ar), .val (.int (0 : Int32)), .val (.int (4 : Int32)), .val (.int (2 : Int32)), .val (.int (3 : Int32)), .val (.long x3), .second] [(.int (2 : Int32))])) _
  refine XS.iloadN X0.here hx rfl (hb hby d4_35) rfl ?_
  show Steps p.tables e below (T0.setTop (mkF m 36 #[.val (.ref ar), .val (.int (0 : Int32)), .val (.int (4 : Int32)), .val (.int (2 : Int32)), .val (.int (3 : Int32)), .val (.long x3), .second] [(.int (0 : Int32)), (.int (2 : Int32))])) _
  refine XS.icmpNo X0.here hx rfl (hb hby d4_36) rfl (flt (by decide : ¬ ((2 : Int32) < (0 : Int32)))).1 ?_
  show Steps p.tables e below (T0.setTop (mkF m 39 #[.val (.ref ar), .val (.int (0 : Int32)), .val (.int (4 : Int32)), .val (.int (2 : Int32)), .val (.int (3 : Int32)), .val (.long x3), .second] [])) _
  refine XS.lload X0.here hx rfl (hb hby d4_39) rfl ?_
  show Steps p.tables e below (T0.setTop (mkF m 41 #[.val (.ref ar), .val (.int (0 : Int32)), .val (.int (4 : Int32)), .val (.int (2 : Int32)), .val (.int (3 : Int32)), .val (.long x3), .second] [(.long x3)])) _
  refine XS.aloadN X0.here hx rfl (hb hby d4_41) rfl rfl ?_
  show Steps p.tables e below (T0.setTop (mkF m 42 #[.val (.ref ar), .val (.int (0 : Int32)), .val (.int (4 : Int32)), .val (.int (2 : Int32)), .val (.int (3 : Int32)), .val (.long x3), .second] [(.ref ar), (.long x3)])) _
  refine XS.iloadN X0.here hx rfl (hb hby d4_42) rfl ?_
  show Steps p.tables e below (T0.setTop (mkF m 43 #[.val (.ref ar), .val (.int (0 : Int32)), .val (.int (4 : Int32)), .val (.int (2 : Int32)), .val (.int (3 : Int32)), .val (.long x3), .second] [(.int (2 : Int32)), (.ref ar), (.long x3)])) _
  refine X0.laload hx (j := (2 : Int32)) (v := (.long x2)) (by rw [e0]; exact Ar3.1) (State.isArrayOf_alike hZ.alike Ar3.2.1) Ar3.2.2 hin3 hat3 (g := (mkF m 43 #[.val (.ref ar), .val (.int (0 : Int32)), .val (.int (4 : Int32)), .val (.int (2 : Int32)), .val (.int (3 : Int32)), .val (.long x3), .second] [(.int (2 : Int32)), (.ref ar), (.long x3)])) rfl rfl (hb hby d4_43) _ ?_
  show Steps p.tables e below (T0.setTop (mkF m 44 #[.val (.ref ar), .val (.int (0 : Int32)), .val (.int (4 : Int32)), .val (.int (2 : Int32)), .val (.int (3 : Int32)), .val (.long x3), .second] [(.long x2), (.long x3)])) _
  refine XS.lcmp X0.here hx rfl (hb hby d4_44) rfl ?_
  show Steps p.tables e below (T0.setTop (mkF m 45 #[.val (.ref ar), .val (.int (0 : Int32)), .val (.int (4 : Int32)), .val (.int (2 : Int32)), .val (.int (3 : Int32)), .val (.long x3), .second] [(.int (lcmpW x3 x2))])) _
  refine XS.ifNo X0.here hx rfl (hb hby d4_45) rfl ((if0 _ _).trans (tlt hc28).2.1) ?_
  show Steps p.tables e below (T0.setTop (mkF m 48 #[.val (.ref ar), .val (.int (0 : Int32)), .val (.int (4 : Int32)), .val (.int (2 : Int32)), .val (.int (3 : Int32)), .val (.long x3), .second] [])) _
  refine XS.aloadN X0.here hx rfl (hb hby d4_48) rfl rfl ?_
  show Steps p.tables e below (T0.setTop (mkF m 49 #[.val (.ref ar), .val (.int (0 : Int32)), .val (.int (4 : Int32)), .val (.int (2 : Int32)), .val (.int (3 : Int32)), .val (.long x3), .second] [(.ref ar)])) _
  refine XS.iloadN X0.here hx rfl (hb hby d4_49) rfl ?_
  show Steps p.tables e below (T0.setTop (mkF m 50 #[.val (.ref ar), .val (.int (0 : Int32)), .val (.int (4 : Int32)), .val (.int (2 : Int32)), .val (.int (3 : Int32)), .val (.long x3), .second] [(.int (2 : Int32)), (.ref ar)])) _
  refine XS.iconst X0.here hx rfl (hb hby d4_50) ?_
  show Steps p.tables e below (T0.setTop (mkF m 51 #[.val (.ref ar), .val (.int (0 : Int32)), .val (.int (4 : Int32)), .val (.int (2 : Int32)), .val (.int (3 : Int32)), .val (.long x3), .second] [(.int (1 : Int32)), (.int (2 : Int32)), (.ref ar)])) _
  refine XS.iadd X0.here hx rfl (hb hby d4_51) rfl ?_
  show Steps p.tables e below (T0.setTop (mkF m 52 #[.val (.ref ar), .val (.int (0 : Int32)), .val (.int (4 : Int32)), .val (.int (2 : Int32)), .val (.int (3 : Int32)), .val (.long x3), .second] [(.int ((2 : Int32) + (1 : Int32))), (.ref ar)])) _
  rw [show ((2 : Int32) + (1 : Int32)) = (3 : Int32) from by decide]
  show Steps p.tables e below (T0.setTop (mkF m 52 #[.val (.ref ar), .val (.int (0 : Int32)), .val (.int (4 : Int32)), .val (.int (2 : Int32)), .val (.int (3 : Int32)), .val (.long x3), .second] [(.int (3 : Int32)), (.ref ar)])) _
  refine XS.aloadN X0.here hx rfl (hb hby d4_52) rfl rfl ?_
  show Steps p.tables e below (T0.setTop (mkF m 53 #[.val (.ref ar), .val (.int (0 : Int32)), .val (.int (4 : Int32)), .val (.int (2 : Int32)), .val (.int (3 : Int32)), .val (.long x3), .second] [(.ref ar), (.int (3 : Int32)), (.ref ar)])) _
  refine XS.iloadN X0.here hx rfl (hb hby d4_53) rfl ?_
  show Steps p.tables e below (T0.setTop (mkF m 54 #[.val (.ref ar), .val (.int (0 : Int32)), .val (.int (4 : Int32)), .val (.int (2 : Int32)), .val (.int (3 : Int32)), .val (.long x3), .second] [(.int (2 : Int32)), (.ref ar), (.int (3 : Int32)), (.ref ar)])) _
  refine X0.laload hx (j := (2 : Int32)) (v := (.long x2)) (by rw [e0]; exact Ar4.1) (State.isArrayOf_alike hZ.alike Ar4.2.1) Ar4.2.2 hin4 hat4 (g := (mkF m 54 #[.val (.ref ar), .val (.int (0 : Int32)), .val (.int (4 : Int32)), .val (.int (2 : Int32)), .val (.int (3 : Int32)), .val (.long x3), .second] [(.int (2 : Int32)), (.ref ar), (.int (3 : Int32)), (.ref ar)])) rfl rfl (hb hby d4_54) _ ?_
  show Steps p.tables e below (T0.setTop (mkF m 55 #[.val (.ref ar), .val (.int (0 : Int32)), .val (.int (4 : Int32)), .val (.int (2 : Int32)), .val (.int (3 : Int32)), .val (.long x3), .second] [(.long x2), (.int (3 : Int32)), (.ref ar)])) _
  refine st5 _ ?_
  show Steps p.tables e below (T5.setTop (mkF m 56 #[.val (.ref ar), .val (.int (0 : Int32)), .val (.int (4 : Int32)), .val (.int (2 : Int32)), .val (.int (3 : Int32)), .val (.long x3), .second] [])) _
  refine XS.goto X5.here hx rfl (pc0 := 56) (pc' := 31) rfl (hb hby d4_56) (by decide) (by decide) ?_
  show Steps p.tables e below (T5.setTop (mkF m 31 #[.val (.ref ar), .val (.int (0 : Int32)), .val (.int (4 : Int32)), .val (.int (2 : Int32)), .val (.int (3 : Int32)), .val (.long x3), .second] [])) _
  refine XS.iinc X5.here hx rfl (hb hby d4_31) rfl (l' := #[.val (.ref ar), .val (.int (0 : Int32)), .val (.int (4 : Int32)), .val (.int ((2 : Int32) + (-1 : Int32))), .val (.int (3 : Int32)), .val (.long x3), .second]) rfl ?_
  show Steps p.tables e below (T5.setTop (mkF m 34 #[.val (.ref ar), .val (.int (0 : Int32)), .val (.int (4 : Int32)), .val (.int ((2 : Int32) + (-1 : Int32))), .val (.int (3 : Int32)), .val (.long x3), .second] [])) _
  rw [show ((2 : Int32) + (-1 : Int32)) = (1 : Int32) from by decide]
  show Steps p.tables e below (T5.setTop (mkF m 34 #[.val (.ref ar), .val (.int (0 : Int32)), .val (.int (4 : Int32)), .val (.int (1 : Int32)), .val (.int (3 : Int32)), .val (.long x3), .second] [])) _
  refine XS.iloadN X5.here hx rfl (hb hby d4_34) rfl ?_
  show Steps p.tables e below (T5.setTop (mkF m 35 #[.val (.ref ar), .val (.int (0 : Int32)), .val (.int (4 : Int32)), .val (.int (1 : Int32)), .val (.int (3 : Int32)), .val (.long x3), .second] [(.int (1 : Int32))])) _
  refine XS.iloadN X5.here hx rfl (hb hby d4_35) rfl ?_
  show Steps p.tables e below (T5.setTop (mkF m 36 #[.val (.ref ar), .val (.int (0 : Int32)), .val (.int (4 : Int32)), .val (.int (1 : Int32)), .val (.int (3 : Int32)), .val (.long x3), .second] [(.int (0 : Int32)), (.int (1 : Int32))])) _
  refine XS.icmpNo X5.here hx rfl (hb hby d4_36) rfl (flt (by decide : ¬ ((1 : Int32) < (0 : Int32)))).1 ?_
  show Steps p.tables e below (T5.setTop (mkF m 39 #[.val (.ref ar), .val (.int (0 : Int32)), .val (.int (4 : Int32)), .val (.int (1 : Int32)), .val (.int (3 : Int32)), .val (.long x3), .second] [])) _
  refine XS.lload X5.here hx rfl (hb hby d4_39) rfl ?_
  show Steps p.tables e below (T5.setTop (mkF m 41 #[.val (.ref ar), .val (.int (0 : Int32)), .val (.int (4 : Int32)), .val (.int (1 : Int32)), .val (.int (3 : Int32)), .val (.long x3), .second] [(.long x3)])) _
  refine XS.aloadN X5.here hx rfl (hb hby d4_41) rfl rfl ?_
  show Steps p.tables e below (T5.setTop (mkF m 42 #[.val (.ref ar), .val (.int (0 : Int32)), .val (.int (4 : Int32)), .val (.int (1 : Int32)), .val (.int (3 : Int32)), .val (.long x3), .second] [(.ref ar), (.long x3)])) _
  refine XS.iloadN X5.here hx rfl (hb hby d4_42) rfl ?_
  show Steps p.tables e below (T5.setTop (mkF m 43 #[.val (.ref ar), .val (.int (0 : Int32)), .val (.int (4 : Int32)), .val (.int (1 : Int32)), .val (.int (3 : Int32)), .val (.long x3), .second] [(.int (1 : Int32)), (.ref ar), (.long x3)])) _
  refine X5.laload hx (j := (1 : Int32)) (v := (.long x1)) (by rw [e5]; exact Ar6.1) (State.isArrayOf_alike hZ.alike Ar6.2.1) Ar6.2.2 hin6 hat6 (g := (mkF m 43 #[.val (.ref ar), .val (.int (0 : Int32)), .val (.int (4 : Int32)), .val (.int (1 : Int32)), .val (.int (3 : Int32)), .val (.long x3), .second] [(.int (1 : Int32)), (.ref ar), (.long x3)])) rfl rfl (hb hby d4_43) _ ?_
  show Steps p.tables e below (T5.setTop (mkF m 44 #[.val (.ref ar), .val (.int (0 : Int32)), .val (.int (4 : Int32)), .val (.int (1 : Int32)), .val (.int (3 : Int32)), .val (.long x3), .second] [(.long x1), (.long x3)])) _
  refine XS.lcmp X5.here hx rfl (hb hby d4_44) rfl ?_
  show Steps p.tables e below (T5.setTop (mkF m 45 #[.val (.ref ar), .val (.int (0 : Int32)), .val (.int (4 : Int32)), .val (.int (1 : Int32)), .val (.int (3 : Int32)), .val (.long x3), .second] [(.int (lcmpW x3 x1))])) _
  refine XS.ifNo X5.here hx rfl (hb hby d4_45) rfl ((if0 _ _).trans (tlt hc45_2).2.1) ?_
  show Steps p.tables e below (T5.setTop (mkF m 48 #[.val (.ref ar), .val (.int (0 : Int32)), .val (.int (4 : Int32)), .val (.int (1 : Int32)), .val (.int (3 : Int32)), .val (.long x3), .second] [])) _
  refine XS.aloadN X5.here hx rfl (hb hby d4_48) rfl rfl ?_
  show Steps p.tables e below (T5.setTop (mkF m 49 #[.val (.ref ar), .val (.int (0 : Int32)), .val (.int (4 : Int32)), .val (.int (1 : Int32)), .val (.int (3 : Int32)), .val (.long x3), .second] [(.ref ar)])) _
  refine XS.iloadN X5.here hx rfl (hb hby d4_49) rfl ?_
  show Steps p.tables e below (T5.setTop (mkF m 50 #[.val (.ref ar), .val (.int (0 : Int32)), .val (.int (4 : Int32)), .val (.int (1 : Int32)), .val (.int (3 : Int32)), .val (.long x3), .second] [(.int (1 : Int32)), (.ref ar)])) _
  refine XS.iconst X5.here hx rfl (hb hby d4_50) ?_
  show Steps p.tables e below (T5.setTop (mkF m 51 #[.val (.ref ar), .val (.int (0 : Int32)), .val (.int (4 : Int32)), .val (.int (1 : Int32)), .val (.int (3 : Int32)), .val (.long x3), .second] [(.int (1 : Int32)), (.int (1 : Int32)), (.ref ar)])) _
  refine XS.iadd X5.here hx rfl (hb hby d4_51) rfl ?_
  show Steps p.tables e below (T5.setTop (mkF m 52 #[.val (.ref ar), .val (.int (0 : Int32)), .val (.int (4 : Int32)), .val (.int (1 : Int32)), .val (.int (3 : Int32)), .val (.long x3), .second] [(.int ((1 : Int32) + (1 : Int32))), (.ref ar)])) _
  rw [show ((1 : Int32) + (1 : Int32)) = (2 : Int32) from by decide]
  show Steps p.tables e below (T5.setTop (mkF m 52 #[.val (.ref ar), .val (.int (0 : Int32)), .val (.int (4 : Int32)), .val (.int (1 : Int32)), .val (.int (3 : Int32)), .val (.long x3), .second] [(.int (2 : Int32)), (.ref ar)])) _
  refine XS.aloadN X5.here hx rfl (hb hby d4_52) rfl rfl ?_
  show Steps p.tables e below (T5.setTop (mkF m 53 #[.val (.ref ar), .val (.int (0 : Int32)), .val (.int (4 : Int32)), .val (.int (1 : Int32)), .val (.int (3 : Int32)), .val (.long x3), .second] [(.ref ar), (.int (2 : Int32)), (.ref ar)])) _
  refine XS.iloadN X5.here hx rfl (hb hby d4_53) rfl ?_
  show Steps p.tables e below (T5.setTop (mkF m 54 #[.val (.ref ar), .val (.int (0 : Int32)), .val (.int (4 : Int32)), .val (.int (1 : Int32)), .val (.int (3 : Int32)), .val (.long x3), .second] [(.int (1 : Int32)), (.ref ar), (.int (2 : Int32)), (.ref ar)])) _
  refine X5.laload hx (j := (1 : Int32)) (v := (.long x1)) (by rw [e5]; exact Ar7.1) (State.isArrayOf_alike hZ.alike Ar7.2.1) Ar7.2.2 hin7 hat7 (g := (mkF m 54 #[.val (.ref ar), .val (.int (0 : Int32)), .val (.int (4 : Int32)), .val (.int (1 : Int32)), .val (.int (3 : Int32)), .val (.long x3), .second] [(.int (1 : Int32)), (.ref ar), (.int (2 : Int32)), (.ref ar)])) rfl rfl (hb hby d4_54) _ ?_
  show Steps p.tables e below (T5.setTop (mkF m 55 #[.val (.ref ar), .val (.int (0 : Int32)), .val (.int (4 : Int32)), .val (.int (1 : Int32)), .val (.int (3 : Int32)), .val (.long x3), .second] [(.long x1), (.int (2 : Int32)), (.ref ar)])) _
  refine st8 _ ?_
  show Steps p.tables e below (T8.setTop (mkF m 56 #[.val (.ref ar), .val (.int (0 : Int32)), .val (.int (4 : Int32)), .val (.int (1 : Int32)), .val (.int (3 : Int32)), .val (.long x3), .second] [])) _
  refine XS.goto X8.here hx rfl (pc0 := 56) (pc' := 31) rfl (hb hby d4_56) (by decide) (by decide) ?_
  show Steps p.tables e below (T8.setTop (mkF m 31 #[.val (.ref ar), .val (.int (0 : Int32)), .val (.int (4 : Int32)), .val (.int (1 : Int32)), .val (.int (3 : Int32)), .val (.long x3), .second] [])) _
  refine XS.iinc X8.here hx rfl (hb hby d4_31) rfl (l' := #[.val (.ref ar), .val (.int (0 : Int32)), .val (.int (4 : Int32)), .val (.int ((1 : Int32) + (-1 : Int32))), .val (.int (3 : Int32)), .val (.long x3), .second]) rfl ?_
  show Steps p.tables e below (T8.setTop (mkF m 34 #[.val (.ref ar), .val (.int (0 : Int32)), .val (.int (4 : Int32)), .val (.int ((1 : Int32) + (-1 : Int32))), .val (.int (3 : Int32)), .val (.long x3), .second] [])) _
  rw [show ((1 : Int32) + (-1 : Int32)) = (0 : Int32) from by decide]
  show Steps p.tables e below (T8.setTop (mkF m 34 #[.val (.ref ar), .val (.int (0 : Int32)), .val (.int (4 : Int32)), .val (.int (0 : Int32)), .val (.int (3 : Int32)), .val (.long x3), .second] [])) _
  refine XS.iloadN X8.here hx rfl (hb hby d4_34) rfl ?_
  show Steps p.tables e below (T8.setTop (mkF m 35 #[.val (.ref ar), .val (.int (0 : Int32)), .val (.int (4 : Int32)), .val (.int (0 : Int32)), .val (.int (3 : Int32)), .val (.long x3), .second] [(.int (0 : Int32))])) _
  refine XS.iloadN X8.here hx rfl (hb hby d4_35) rfl ?_
  show Steps p.tables e below (T8.setTop (mkF m 36 #[.val (.ref ar), .val (.int (0 : Int32)), .val (.int (4 : Int32)), .val (.int (0 : Int32)), .val (.int (3 : Int32)), .val (.long x3), .second] [(.int (0 : Int32)), (.int (0 : Int32))])) _
  refine XS.icmpNo X8.here hx rfl (hb hby d4_36) rfl (flt (by decide : ¬ ((0 : Int32) < (0 : Int32)))).1 ?_
  show Steps p.tables e below (T8.setTop (mkF m 39 #[.val (.ref ar), .val (.int (0 : Int32)), .val (.int (4 : Int32)), .val (.int (0 : Int32)), .val (.int (3 : Int32)), .val (.long x3), .second] [])) _
  refine XS.lload X8.here hx rfl (hb hby d4_39) rfl ?_
  show Steps p.tables e below (T8.setTop (mkF m 41 #[.val (.ref ar), .val (.int (0 : Int32)), .val (.int (4 : Int32)), .val (.int (0 : Int32)), .val (.int (3 : Int32)), .val (.long x3), .second] [(.long x3)])) _
  refine XS.aloadN X8.here hx rfl (hb hby d4_41) rfl rfl ?_
  show Steps p.tables e below (T8.setTop (mkF m 42 #[.val (.ref ar), .val (.int (0 : Int32)), .val (.int (4 : Int32)), .val (.int (0 : Int32)), .val (.int (3 : Int32)), .val (.long x3), .second] [(.ref ar), (.long x3)])) _
  refine XS.iloadN X8.here hx rfl (hb hby d4_42) rfl ?_
  show Steps p.tables e below (T8.setTop (mkF m 43 #[.val (.ref ar), .val (.int (0 : Int32)), .val (.int (4 : Int32)), .val (.int (0 : Int32)), .val (.int (3 : Int32)), .val (.long x3), .second] [(.int (0 : Int32)), (.ref ar), (.long x3)])) _
  refine X8.laload hx (j := (0 : Int32)) (v := (.long x0)) (by rw [e8]; exact Ar9.1) (State.isArrayOf_alike hZ.alike Ar9.2.1) Ar9.2.2 hin9 hat9 (g := (mkF m 43 #[.val (.ref ar), .val (.int (0 : Int32)), .val (.int (4 : Int32)), .val (.int (0 : Int32)), .val (.int (3 : Int32)), .val (.long x3), .second] [(.int (0 : Int32)), (.ref ar), (.long x3)])) rfl rfl (hb hby d4_43) _ ?_
  show Steps p.tables e below (T8.setTop (mkF m 44 #[.val (.ref ar), .val (.int (0 : Int32)), .val (.int (4 : Int32)), .val (.int (0 : Int32)), .val (.int (3 : Int32)), .val (.long x3), .second] [(.long x0), (.long x3)])) _
  refine XS.lcmp X8.here hx rfl (hb hby d4_44) rfl ?_
  show Steps p.tables e below (T8.setTop (mkF m 45 #[.val (.ref ar), .val (.int (0 : Int32)), .val (.int (4 : Int32)), .val (.int (0 : Int32)), .val (.int (3 : Int32)), .val (.long x3), .second] [(.int (lcmpW x3 x0))])) _
  refine XS.ifNo X8.here hx rfl (hb hby d4_45) rfl ((if0 _ _).trans (tlt hc45_3).2.1) ?_
  show Steps p.tables e below (T8.setTop (mkF m 48 #[.val (.ref ar), .val (.int (0 : Int32)), .val (.int (4 : Int32)), .val (.int (0 : Int32)), .val (.int (3 : Int32)), .val (.long x3), .second] [])) _
  refine XS.aloadN X8.here hx rfl (hb hby d4_48) rfl rfl ?_
  show Steps p.tables e below (T8.setTop (mkF m 49 #[.val (.ref ar), .val (.int (0 : Int32)), .val (.int (4 : Int32)), .val (.int (0 : Int32)), .val (.int (3 : Int32)), .val (.long x3), .second] [(.ref ar)])) _
  refine XS.iloadN X8.here hx rfl (hb hby d4_49) rfl ?_
  show Steps p.tables e below (T8.setTop (mkF m 50 #[.val (.ref ar), .val (.int (0 : Int32)), .val (.int (4 : Int32)), .val (.int (0 : Int32)), .val (.int (3 : Int32)), .val (.long x3), .second] [(.int (0 : Int32)), (.ref ar)])) _
  refine XS.iconst X8.here hx rfl (hb hby d4_50) ?_
  show Steps p.tables e below (T8.setTop (mkF m 51 #[.val (.ref ar), .val (.int (0 : Int32)), .val (.int (4 : Int32)), .val (.int (0 : Int32)), .val (.int (3 : Int32)), .val (.long x3), .second] [(.int (1 : Int32)), (.int (0 : Int32)), (.ref ar)])) _
  refine XS.iadd X8.here hx rfl (hb hby d4_51) rfl ?_
  show Steps p.tables e below (T8.setTop (mkF m 52 #[.val (.ref ar), .val (.int (0 : Int32)), .val (.int (4 : Int32)), .val (.int (0 : Int32)), .val (.int (3 : Int32)), .val (.long x3), .second] [(.int ((0 : Int32) + (1 : Int32))), (.ref ar)])) _
  rw [show ((0 : Int32) + (1 : Int32)) = (1 : Int32) from by decide]
  show Steps p.tables e below (T8.setTop (mkF m 52 #[.val (.ref ar), .val (.int (0 : Int32)), .val (.int (4 : Int32)), .val (.int (0 : Int32)), .val (.int (3 : Int32)), .val (.long x3), .second] [(.int (1 : Int32)), (.ref ar)])) _
  refine XS.aloadN X8.here hx rfl (hb hby d4_52) rfl rfl ?_
  show Steps p.tables e below (T8.setTop (mkF m 53 #[.val (.ref ar), .val (.int (0 : Int32)), .val (.int (4 : Int32)), .val (.int (0 : Int32)), .val (.int (3 : Int32)), .val (.long x3), .second] [(.ref ar), (.int (1 : Int32)), (.ref ar)])) _
  refine XS.iloadN X8.here hx rfl (hb hby d4_53) rfl ?_
  show Steps p.tables e below (T8.setTop (mkF m 54 #[.val (.ref ar), .val (.int (0 : Int32)), .val (.int (4 : Int32)), .val (.int (0 : Int32)), .val (.int (3 : Int32)), .val (.long x3), .second] [(.int (0 : Int32)), (.ref ar), (.int (1 : Int32)), (.ref ar)])) _
  refine X8.laload hx (j := (0 : Int32)) (v := (.long x0)) (by rw [e8]; exact Ar10.1) (State.isArrayOf_alike hZ.alike Ar10.2.1) Ar10.2.2 hin10 hat10 (g := (mkF m 54 #[.val (.ref ar), .val (.int (0 : Int32)), .val (.int (4 : Int32)), .val (.int (0 : Int32)), .val (.int (3 : Int32)), .val (.long x3), .second] [(.int (0 : Int32)), (.ref ar), (.int (1 : Int32)), (.ref ar)])) rfl rfl (hb hby d4_54) _ ?_
  show Steps p.tables e below (T8.setTop (mkF m 55 #[.val (.ref ar), .val (.int (0 : Int32)), .val (.int (4 : Int32)), .val (.int (0 : Int32)), .val (.int (3 : Int32)), .val (.long x3), .second] [(.long x0), (.int (1 : Int32)), (.ref ar)])) _
  refine st11 _ ?_
  show Steps p.tables e below (T11.setTop (mkF m 56 #[.val (.ref ar), .val (.int (0 : Int32)), .val (.int (4 : Int32)), .val (.int (0 : Int32)), .val (.int (3 : Int32)), .val (.long x3), .second] [])) _
  refine XS.goto X11.here hx rfl (pc0 := 56) (pc' := 31) rfl (hb hby d4_56) (by decide) (by decide) ?_
  show Steps p.tables e below (T11.setTop (mkF m 31 #[.val (.ref ar), .val (.int (0 : Int32)), .val (.int (4 : Int32)), .val (.int (0 : Int32)), .val (.int (3 : Int32)), .val (.long x3), .second] [])) _
  refine XS.iinc X11.here hx rfl (hb hby d4_31) rfl (l' := #[.val (.ref ar), .val (.int (0 : Int32)), .val (.int (4 : Int32)), .val (.int ((0 : Int32) + (-1 : Int32))), .val (.int (3 : Int32)), .val (.long x3), .second]) rfl ?_
  show Steps p.tables e below (T11.setTop (mkF m 34 #[.val (.ref ar), .val (.int (0 : Int32)), .val (.int (4 : Int32)), .val (.int ((0 : Int32) + (-1 : Int32))), .val (.int (3 : Int32)), .val (.long x3), .second] [])) _
  rw [show ((0 : Int32) + (-1 : Int32)) = (-1 : Int32) from by decide]
  show Steps p.tables e below (T11.setTop (mkF m 34 #[.val (.ref ar), .val (.int (0 : Int32)), .val (.int (4 : Int32)), .val (.int (-1 : Int32)), .val (.int (3 : Int32)), .val (.long x3), .second] [])) _
  refine XS.iloadN X11.here hx rfl (hb hby d4_34) rfl ?_
  show Steps p.tables e below (T11.setTop (mkF m 35 #[.val (.ref ar), .val (.int (0 : Int32)), .val (.int (4 : Int32)), .val (.int (-1 : Int32)), .val (.int (3 : Int32)), .val (.long x3), .second] [(.int (-1 : Int32))])) _
  refine XS.iloadN X11.here hx rfl (hb hby d4_35) rfl ?_
  show Steps p.tables e below (T11.setTop (mkF m 36 #[.val (.ref ar), .val (.int (0 : Int32)), .val (.int (4 : Int32)), .val (.int (-1 : Int32)), .val (.int (3 : Int32)), .val (.long x3), .second] [(.int (0 : Int32)), (.int (-1 : Int32))])) _
  refine XS.icmpYes X11.here hx rfl (pc0 := 36) (pc' := 59) rfl (hb hby d4_36) rfl (tlt (by decide : (-1 : Int32) < (0 : Int32))).1 (by decide) (by decide) ?_
  show Steps p.tables e below (T11.setTop (mkF m 59 #[.val (.ref ar), .val (.int (0 : Int32)), .val (.int (4 : Int32)), .val (.int (-1 : Int32)), .val (.int (3 : Int32)), .val (.long x3), .second] [])) _
  refine XS.aloadN X11.here hx rfl (hb hby d4_59) rfl rfl ?_
  show Steps p.tables e below (T11.setTop (mkF m 60 #[.val (.ref ar), .val (.int (0 : Int32)), .val (.int (4 : Int32)), .val (.int (-1 : Int32)), .val (.int (3 : Int32)), .val (.long x3), .second] [(.ref ar)])) _
  refine XS.iloadN X11.here hx rfl (hb hby d4_60) rfl ?_
  show Steps p.tables e below (T11.setTop (mkF m 61 #[.val (.ref ar), .val (.int (0 : Int32)), .val (.int (4 : Int32)), .val (.int (-1 : Int32)), .val (.int (3 : Int32)), .val (.long x3), .second] [(.int (-1 : Int32)), (.ref ar)])) _
  refine XS.iconst X11.here hx rfl (hb hby d4_61) ?_
  show Steps p.tables e below (T11.setTop (mkF m 62 #[.val (.ref ar), .val (.int (0 : Int32)), .val (.int (4 : Int32)), .val (.int (-1 : Int32)), .val (.int (3 : Int32)), .val (.long x3), .second] [(.int (1 : Int32)), (.int (-1 : Int32)), (.ref ar)])) _
  refine XS.iadd X11.here hx rfl (hb hby d4_62) rfl ?_
  show Steps p.tables e below (T11.setTop (mkF m 63 #[.val (.ref ar), .val (.int (0 : Int32)), .val (.int (4 : Int32)), .val (.int (-1 : Int32)), .val (.int (3 : Int32)), .val (.long x3), .second] [(.int ((-1 : Int32) + (1 : Int32))), (.ref ar)])) _
  rw [show ((-1 : Int32) + (1 : Int32)) = (0 : Int32) from by decide]
  show Steps p.tables e below (T11.setTop (mkF m 63 #[.val (.ref ar), .val (.int (0 : Int32)), .val (.int (4 : Int32)), .val (.int (-1 : Int32)), .val (.int (3 : Int32)), .val (.long x3), .second] [(.int (0 : Int32)), (.ref ar)])) _
  refine XS.lload X11.here hx rfl (hb hby d4_63) rfl ?_
  show Steps p.tables e below (T11.setTop (mkF m 65 #[.val (.ref ar), .val (.int (0 : Int32)), .val (.int (4 : Int32)), .val (.int (-1 : Int32)), .val (.int (3 : Int32)), .val (.long x3), .second] [(.long x3), (.int (0 : Int32)), (.ref ar)])) _
  refine st12 _ ?_
  show Steps p.tables e below (T12.setTop (mkF m 66 #[.val (.ref ar), .val (.int (0 : Int32)), .val (.int (4 : Int32)), .val (.int (-1 : Int32)), .val (.int (3 : Int32)), .val (.long x3), .second] [])) _
  refine XS.goto X12.here hx rfl (pc0 := 66) (pc' := 3) rfl (hb hby d4_66) (by decide) (by decide) ?_
  exact kt
def own_mx (a b : Int64) : Int64 := if (lcmpW b a) < (0 : Int32) then a else b
theorem own_mx_eq (a b : Int64) : (if (lcmpW a b) < (0 : Int32) then b else a) = own_mx a b := by
  unfold own_mx
  simp only [lw_lt]
  by_cases h1 : a < b
  · rw [if_pos h1, if_neg (fun h2 => Int64.lt_irrefl (Int64.lt_trans h1 h2))]
  · rw [if_neg h1]
    by_cases h2 : b < a
    · rw [if_pos h2]
    · rw [if_neg h2]
      exact Int64.le_antisymm (Int64.not_lt.mp h2) (Int64.not_lt.mp h1)
set_option maxRecDepth 65536 in
set_option maxHeartbeats 40000000 in
theorem turn2_1 {p : Program} {l : Launch} {e : Env} {R : Room} {s : State} {m : MethodId} {args : Array Value} {below : List Frame} {meth : Method} {c : Code} {T0 : State} {locs : List Loc} {cells slots : Nat} {Z : State} {a0 : Array Value} {h0 : Heap} {n0 : Nat} (ka : ClassId) (x0 : Int64) (x1 : Int64) (ar : Addr)
    (X0 : Stand p l e R s m args below meth c T0 locs cells slots) (hx : p.tables.exec = Jvm.exec) (hZ : Z.Warmed39 s.vm) (hw : ∀ d ∈ tables_1, d.before a0 Z = true) (hby : c.code = jdk_2529_method_15_code) (hml : c.maxLocals = 7) (hown : s.vm.findClass "java/util/DualPivotQuicksort" = some m.cls) (e0 : T0.heap = h0) (N0 : Fr n0 locs) (Z0 : n0 ≤ h0.size) (V_ar : Arv Z h0 ar ka .long (2 : Int32) [(.long x0), (.long x1)] (.long (0 : Int64))) (g_ar : n0 ≤ ar) :
    ∃ (jj : Int32) (y0 : Int64) (T' : State) (h' : Heap) (locs' : List Loc), Stand p l e R s m args below meth c T' locs' cells slots ∧ T'.heap = h' ∧ Fr n0 locs' ∧ Keep h0 h' [ar] ∧ Arv Z h' ar ka .long (2 : Int32) [(.long y0), (.long (own_mx x0 x1))] (.long (0 : Int64)) ∧ ∀ target, Steps p.tables e below (T'.setTop (mkF m 3 #[.val (.ref ar), .val (.int (0 : Int32)), .val (.int (2 : Int32)), .val (.int jj), .val (.int (1 : Int32)), .val (.long x1), .second] [])) target → Steps p.tables e below (T0.setTop (mkF m 3 #[.val (.ref ar), .val (.int (0 : Int32)), .val (.int (2 : Int32)), .unset, .val (.int (0 : Int32)), .unset, .unset] [])) target := by
  unfold own_mx
  by_cases c0 : (lcmpW x1 x0) < (0 : Int32)
  ·
    obtain ⟨T1, h1, lo1, X1, e1, N1, K1, V1, st1⟩ := tn2_1_1 ka x0 x1 ar X0 hx hZ hw hby hml hown e0 N0 Z0 V_ar c0 g_ar
    rw [if_pos c0]
    exact ⟨(-1 : Int32), x1, T1, _, lo1, X1, e1, N1, K1, V1, st1⟩
  ·
    obtain ⟨T1, h1, lo1, X1, e1, N1, K1, V1, st1⟩ := tn2_1_0 ka x0 x1 ar X0 hx hZ hw hby hml hown e0 N0 Z0 V_ar c0
    subst K1
    rw [if_neg c0]
    exact ⟨(1 : Int32), x0, T1, _, lo1, X1, e1, N1, Keep.refl _ _, V1, st1⟩
set_option maxRecDepth 65536 in
set_option maxHeartbeats 40000000 in
theorem turn3_1 {p : Program} {l : Launch} {e : Env} {R : Room} {s : State} {m : MethodId} {args : Array Value} {below : List Frame} {meth : Method} {c : Code} {T0 : State} {locs : List Loc} {cells slots : Nat} {Z : State} {a0 : Array Value} {h0 : Heap} {n0 : Nat} (ka : ClassId) (x0 : Int64) (x1 : Int64) (x2 : Int64) (ar : Addr)
    (X0 : Stand p l e R s m args below meth c T0 locs cells slots) (hx : p.tables.exec = Jvm.exec) (hZ : Z.Warmed39 s.vm) (hw : ∀ d ∈ tables_1, d.before a0 Z = true) (hby : c.code = jdk_2529_method_15_code) (hml : c.maxLocals = 7) (hown : s.vm.findClass "java/util/DualPivotQuicksort" = some m.cls) (e0 : T0.heap = h0) (N0 : Fr n0 locs) (Z0 : n0 ≤ h0.size) (V_ar : Arv Z h0 ar ka .long (3 : Int32) [(.long x0), (.long x1), (.long x2)] (.long (0 : Int64))) (g_ar : n0 ≤ ar) :
    ∃ (jj : Int32) (y0 : Int64) (T' : State) (h' : Heap) (locs' : List Loc), Stand p l e R s m args below meth c T' locs' cells slots ∧ T'.heap = h' ∧ Fr n0 locs' ∧ Keep h0 h' [ar] ∧ Arv Z h' ar ka .long (3 : Int32) [(.long y0), (.long (own_mx x0 x1)), (.long x2)] (.long (0 : Int64)) ∧ ∀ target, Steps p.tables e below (T'.setTop (mkF m 3 #[.val (.ref ar), .val (.int (0 : Int32)), .val (.int (3 : Int32)), .val (.int jj), .val (.int (1 : Int32)), .val (.long x1), .second] [])) target → Steps p.tables e below (T0.setTop (mkF m 3 #[.val (.ref ar), .val (.int (0 : Int32)), .val (.int (3 : Int32)), .unset, .val (.int (0 : Int32)), .unset, .unset] [])) target := by
  unfold own_mx
  by_cases c0 : (lcmpW x1 x0) < (0 : Int32)
  ·
    obtain ⟨T1, h1, lo1, X1, e1, N1, K1, V1, st1⟩ := tn3_1_1 ka x0 x1 x2 ar X0 hx hZ hw hby hml hown e0 N0 Z0 V_ar c0 g_ar
    rw [if_pos c0]
    exact ⟨(-1 : Int32), x1, T1, _, lo1, X1, e1, N1, K1, V1, st1⟩
  ·
    obtain ⟨T1, h1, lo1, X1, e1, N1, K1, V1, st1⟩ := tn3_1_0 ka x0 x1 x2 ar X0 hx hZ hw hby hml hown e0 N0 Z0 V_ar c0
    subst K1
    rw [if_neg c0]
    exact ⟨(1 : Int32), x0, T1, _, lo1, X1, e1, N1, Keep.refl _ _, V1, st1⟩
set_option maxRecDepth 65536 in
set_option maxHeartbeats 40000000 in
theorem turn3_2 {p : Program} {l : Launch} {e : Env} {R : Room} {s : State} {m : MethodId} {args : Array Value} {below : List Frame} {meth : Method} {c : Code} {T0 : State} {locs : List Loc} {cells slots : Nat} {Z : State} {a0 : Array Value} {h0 : Heap} {n0 : Nat} (ka : ClassId) (x0 : Int64) (x1 : Int64) (x2 : Int64) (ar : Addr) (j0 : Int32) (v0 : Int64)
    (X0 : Stand p l e R s m args below meth c T0 locs cells slots) (hx : p.tables.exec = Jvm.exec) (hZ : Z.Warmed39 s.vm) (hw : ∀ d ∈ tables_1, d.before a0 Z = true) (hby : c.code = jdk_2529_method_15_code) (hml : c.maxLocals = 7) (hown : s.vm.findClass "java/util/DualPivotQuicksort" = some m.cls) (e0 : T0.heap = h0) (N0 : Fr n0 locs) (Z0 : n0 ≤ h0.size) (V_ar : Arv Z h0 ar ka .long (3 : Int32) [(.long x0), (.long x1), (.long x2)] (.long (0 : Int64))) (g_ar : n0 ≤ ar) :
    ∃ (jj : Int32) (y0 : Int64) (y1 : Int64) (T' : State) (h' : Heap) (locs' : List Loc), Stand p l e R s m args below meth c T' locs' cells slots ∧ T'.heap = h' ∧ Fr n0 locs' ∧ Keep h0 h' [ar] ∧ Arv Z h' ar ka .long (3 : Int32) [(.long y0), (.long y1), (.long (own_mx x1 x2))] (.long (0 : Int64)) ∧ ∀ target, Steps p.tables e below (T'.setTop (mkF m 3 #[.val (.ref ar), .val (.int (0 : Int32)), .val (.int (3 : Int32)), .val (.int jj), .val (.int (2 : Int32)), .val (.long x2), .second] [])) target → Steps p.tables e below (T0.setTop (mkF m 3 #[.val (.ref ar), .val (.int (0 : Int32)), .val (.int (3 : Int32)), .val (.int j0), .val (.int (1 : Int32)), .val (.long v0), .second] [])) target := by
  unfold own_mx
  by_cases c0 : (lcmpW x2 x1) < (0 : Int32)
  ·
    by_cases c1 : (lcmpW x2 x0) < (0 : Int32)
    ·
      obtain ⟨T1, h1, lo1, X1, e1, N1, K1, V1, st1⟩ := tn3_2_2 ka x0 x1 x2 ar j0 v0 X0 hx hZ hw hby hml hown e0 N0 Z0 V_ar c0 g_ar c1
      rw [if_pos c0]
      exact ⟨(-1 : Int32), x2, x0, T1, _, lo1, X1, e1, N1, K1, V1, st1⟩
    ·
      obtain ⟨T1, h1, lo1, X1, e1, N1, K1, V1, st1⟩ := tn3_2_1 ka x0 x1 x2 ar j0 v0 X0 hx hZ hw hby hml hown e0 N0 Z0 V_ar c0 g_ar c1
      rw [if_pos c0]
      exact ⟨(0 : Int32), x0, x2, T1, _, lo1, X1, e1, N1, K1, V1, st1⟩
  ·
    obtain ⟨T1, h1, lo1, X1, e1, N1, K1, V1, st1⟩ := tn3_2_0 ka x0 x1 x2 ar j0 v0 X0 hx hZ hw hby hml hown e0 N0 Z0 V_ar c0
    subst K1
    rw [if_neg c0]
    exact ⟨(2 : Int32), x0, x1, T1, _, lo1, X1, e1, N1, Keep.refl _ _, V1, st1⟩
set_option maxRecDepth 65536 in
set_option maxHeartbeats 40000000 in
theorem turn4_1 {p : Program} {l : Launch} {e : Env} {R : Room} {s : State} {m : MethodId} {args : Array Value} {below : List Frame} {meth : Method} {c : Code} {T0 : State} {locs : List Loc} {cells slots : Nat} {Z : State} {a0 : Array Value} {h0 : Heap} {n0 : Nat} (ka : ClassId) (x0 : Int64) (x1 : Int64) (x2 : Int64) (x3 : Int64) (ar : Addr)
    (X0 : Stand p l e R s m args below meth c T0 locs cells slots) (hx : p.tables.exec = Jvm.exec) (hZ : Z.Warmed39 s.vm) (hw : ∀ d ∈ tables_1, d.before a0 Z = true) (hby : c.code = jdk_2529_method_15_code) (hml : c.maxLocals = 7) (hown : s.vm.findClass "java/util/DualPivotQuicksort" = some m.cls) (e0 : T0.heap = h0) (N0 : Fr n0 locs) (Z0 : n0 ≤ h0.size) (V_ar : Arv Z h0 ar ka .long (4 : Int32) [(.long x0), (.long x1), (.long x2), (.long x3)] (.long (0 : Int64))) (g_ar : n0 ≤ ar) :
    ∃ (jj : Int32) (y0 : Int64) (T' : State) (h' : Heap) (locs' : List Loc), Stand p l e R s m args below meth c T' locs' cells slots ∧ T'.heap = h' ∧ Fr n0 locs' ∧ Keep h0 h' [ar] ∧ Arv Z h' ar ka .long (4 : Int32) [(.long y0), (.long (own_mx x0 x1)), (.long x2), (.long x3)] (.long (0 : Int64)) ∧ ∀ target, Steps p.tables e below (T'.setTop (mkF m 3 #[.val (.ref ar), .val (.int (0 : Int32)), .val (.int (4 : Int32)), .val (.int jj), .val (.int (1 : Int32)), .val (.long x1), .second] [])) target → Steps p.tables e below (T0.setTop (mkF m 3 #[.val (.ref ar), .val (.int (0 : Int32)), .val (.int (4 : Int32)), .unset, .val (.int (0 : Int32)), .unset, .unset] [])) target := by
  unfold own_mx
  by_cases c0 : (lcmpW x1 x0) < (0 : Int32)
  ·
    obtain ⟨T1, h1, lo1, X1, e1, N1, K1, V1, st1⟩ := tn4_1_1 ka x0 x1 x2 x3 ar X0 hx hZ hw hby hml hown e0 N0 Z0 V_ar c0 g_ar
    rw [if_pos c0]
    exact ⟨(-1 : Int32), x1, T1, _, lo1, X1, e1, N1, K1, V1, st1⟩
  ·
    obtain ⟨T1, h1, lo1, X1, e1, N1, K1, V1, st1⟩ := tn4_1_0 ka x0 x1 x2 x3 ar X0 hx hZ hw hby hml hown e0 N0 Z0 V_ar c0
    subst K1
    rw [if_neg c0]
    exact ⟨(1 : Int32), x0, T1, _, lo1, X1, e1, N1, Keep.refl _ _, V1, st1⟩
set_option maxRecDepth 65536 in
set_option maxHeartbeats 40000000 in
theorem turn4_2 {p : Program} {l : Launch} {e : Env} {R : Room} {s : State} {m : MethodId} {args : Array Value} {below : List Frame} {meth : Method} {c : Code} {T0 : State} {locs : List Loc} {cells slots : Nat} {Z : State} {a0 : Array Value} {h0 : Heap} {n0 : Nat} (ka : ClassId) (x0 : Int64) (x1 : Int64) (x2 : Int64) (x3 : Int64) (ar : Addr) (j0 : Int32) (v0 : Int64)
    (X0 : Stand p l e R s m args below meth c T0 locs cells slots) (hx : p.tables.exec = Jvm.exec) (hZ : Z.Warmed39 s.vm) (hw : ∀ d ∈ tables_1, d.before a0 Z = true) (hby : c.code = jdk_2529_method_15_code) (hml : c.maxLocals = 7) (hown : s.vm.findClass "java/util/DualPivotQuicksort" = some m.cls) (e0 : T0.heap = h0) (N0 : Fr n0 locs) (Z0 : n0 ≤ h0.size) (V_ar : Arv Z h0 ar ka .long (4 : Int32) [(.long x0), (.long x1), (.long x2), (.long x3)] (.long (0 : Int64))) (g_ar : n0 ≤ ar) :
    ∃ (jj : Int32) (y0 : Int64) (y1 : Int64) (T' : State) (h' : Heap) (locs' : List Loc), Stand p l e R s m args below meth c T' locs' cells slots ∧ T'.heap = h' ∧ Fr n0 locs' ∧ Keep h0 h' [ar] ∧ Arv Z h' ar ka .long (4 : Int32) [(.long y0), (.long y1), (.long (own_mx x1 x2)), (.long x3)] (.long (0 : Int64)) ∧ ∀ target, Steps p.tables e below (T'.setTop (mkF m 3 #[.val (.ref ar), .val (.int (0 : Int32)), .val (.int (4 : Int32)), .val (.int jj), .val (.int (2 : Int32)), .val (.long x2), .second] [])) target → Steps p.tables e below (T0.setTop (mkF m 3 #[.val (.ref ar), .val (.int (0 : Int32)), .val (.int (4 : Int32)), .val (.int j0), .val (.int (1 : Int32)), .val (.long v0), .second] [])) target := by
  unfold own_mx
  by_cases c0 : (lcmpW x2 x1) < (0 : Int32)
  ·
    by_cases c1 : (lcmpW x2 x0) < (0 : Int32)
    ·
      obtain ⟨T1, h1, lo1, X1, e1, N1, K1, V1, st1⟩ := tn4_2_2 ka x0 x1 x2 x3 ar j0 v0 X0 hx hZ hw hby hml hown e0 N0 Z0 V_ar c0 g_ar c1
      rw [if_pos c0]
      exact ⟨(-1 : Int32), x2, x0, T1, _, lo1, X1, e1, N1, K1, V1, st1⟩
    ·
      obtain ⟨T1, h1, lo1, X1, e1, N1, K1, V1, st1⟩ := tn4_2_1 ka x0 x1 x2 x3 ar j0 v0 X0 hx hZ hw hby hml hown e0 N0 Z0 V_ar c0 g_ar c1
      rw [if_pos c0]
      exact ⟨(0 : Int32), x0, x2, T1, _, lo1, X1, e1, N1, K1, V1, st1⟩
  ·
    obtain ⟨T1, h1, lo1, X1, e1, N1, K1, V1, st1⟩ := tn4_2_0 ka x0 x1 x2 x3 ar j0 v0 X0 hx hZ hw hby hml hown e0 N0 Z0 V_ar c0
    subst K1
    rw [if_neg c0]
    exact ⟨(2 : Int32), x0, x1, T1, _, lo1, X1, e1, N1, Keep.refl _ _, V1, st1⟩
set_option maxRecDepth 65536 in
set_option maxHeartbeats 40000000 in
theorem turn4_3 {p : Program} {l : Launch} {e : Env} {R : Room} {s : State} {m : MethodId} {args : Array Value} {below : List Frame} {meth : Method} {c : Code} {T0 : State} {locs : List Loc} {cells slots : Nat} {Z : State} {a0 : Array Value} {h0 : Heap} {n0 : Nat} (ka : ClassId) (x0 : Int64) (x1 : Int64) (x2 : Int64) (x3 : Int64) (ar : Addr) (j0 : Int32) (v0 : Int64)
    (X0 : Stand p l e R s m args below meth c T0 locs cells slots) (hx : p.tables.exec = Jvm.exec) (hZ : Z.Warmed39 s.vm) (hw : ∀ d ∈ tables_1, d.before a0 Z = true) (hby : c.code = jdk_2529_method_15_code) (hml : c.maxLocals = 7) (hown : s.vm.findClass "java/util/DualPivotQuicksort" = some m.cls) (e0 : T0.heap = h0) (N0 : Fr n0 locs) (Z0 : n0 ≤ h0.size) (V_ar : Arv Z h0 ar ka .long (4 : Int32) [(.long x0), (.long x1), (.long x2), (.long x3)] (.long (0 : Int64))) (g_ar : n0 ≤ ar) :
    ∃ (jj : Int32) (y0 : Int64) (y1 : Int64) (y2 : Int64) (T' : State) (h' : Heap) (locs' : List Loc), Stand p l e R s m args below meth c T' locs' cells slots ∧ T'.heap = h' ∧ Fr n0 locs' ∧ Keep h0 h' [ar] ∧ Arv Z h' ar ka .long (4 : Int32) [(.long y0), (.long y1), (.long y2), (.long (own_mx x2 x3))] (.long (0 : Int64)) ∧ ∀ target, Steps p.tables e below (T'.setTop (mkF m 3 #[.val (.ref ar), .val (.int (0 : Int32)), .val (.int (4 : Int32)), .val (.int jj), .val (.int (3 : Int32)), .val (.long x3), .second] [])) target → Steps p.tables e below (T0.setTop (mkF m 3 #[.val (.ref ar), .val (.int (0 : Int32)), .val (.int (4 : Int32)), .val (.int j0), .val (.int (2 : Int32)), .val (.long v0), .second] [])) target := by
  unfold own_mx
  by_cases c0 : (lcmpW x3 x2) < (0 : Int32)
  ·
    by_cases c1 : (lcmpW x3 x1) < (0 : Int32)
    ·
      by_cases c2 : (lcmpW x3 x0) < (0 : Int32)
      ·
        obtain ⟨T1, h1, lo1, X1, e1, N1, K1, V1, st1⟩ := tn4_3_3 ka x0 x1 x2 x3 ar j0 v0 X0 hx hZ hw hby hml hown e0 N0 Z0 V_ar c0 g_ar c1 c2
        rw [if_pos c0]
        exact ⟨(-1 : Int32), x3, x0, x1, T1, _, lo1, X1, e1, N1, K1, V1, st1⟩
      ·
        obtain ⟨T1, h1, lo1, X1, e1, N1, K1, V1, st1⟩ := tn4_3_2 ka x0 x1 x2 x3 ar j0 v0 X0 hx hZ hw hby hml hown e0 N0 Z0 V_ar c0 g_ar c1 c2
        rw [if_pos c0]
        exact ⟨(0 : Int32), x0, x3, x1, T1, _, lo1, X1, e1, N1, K1, V1, st1⟩
    ·
      obtain ⟨T1, h1, lo1, X1, e1, N1, K1, V1, st1⟩ := tn4_3_1 ka x0 x1 x2 x3 ar j0 v0 X0 hx hZ hw hby hml hown e0 N0 Z0 V_ar c0 g_ar c1
      rw [if_pos c0]
      exact ⟨(1 : Int32), x0, x1, x3, T1, _, lo1, X1, e1, N1, K1, V1, st1⟩
  ·
    obtain ⟨T1, h1, lo1, X1, e1, N1, K1, V1, st1⟩ := tn4_3_0 ka x0 x1 x2 x3 ar j0 v0 X0 hx hZ hw hby hml hown e0 N0 Z0 V_ar c0
    subst K1
    rw [if_neg c0]
    exact ⟨(3 : Int32), x0, x1, x2, T1, _, lo1, X1, e1, N1, Keep.refl _ _, V1, st1⟩
theorem d4_0 : decode jdk_2529_method_15_code 0 = .ok (.iload_n 1, 1) := by decide +kernel
theorem d4_1 : decode jdk_2529_method_15_code 1 = .ok (.istore 4, 2) := by decide +kernel
theorem d4_69 : decode jdk_2529_method_15_code 69 = .ok (.return_, 1) := by decide +kernel
theorem pn_1 : plainName "java/util/DualPivotQuicksort" = true := by first | (simp [plainName, overriddenIn]; done) | decide +kernel
def Q_rmS1 (Z : State) (ar : Addr) (ka : ClassId) (x0 : Int64) (h0 : Heap) (n0 : Nat) (v : Option Value) (h : Heap) (L : List Loc) : Prop := v = none ∧ Fr n0 L ∧ Keep h0 h [ar] ∧ Arv Z h ar ka .long (1 : Int32) [(.long x0)] (.long (0 : Int64))
theorem ef_rmS1 (m : MethodId) (ar : Addr) : entryFrame m #[(.ref ar), (.int (0 : Int32)), (.int (1 : Int32))] 7 = mkF m 0 #[.val (.ref ar), .val (.int (0 : Int32)), .val (.int (1 : Int32)), .unset, .unset, .unset, .unset] [] := by first | (simp [entryFrame, mkF, argsToLocals, Value.category]; done) | rfl
set_option maxRecDepth 65536 in
set_option maxHeartbeats 40000000 in
theorem rmS1 (l : Launch) (Z : State) (a0 : Array Value) (hw : ∀ d ∈ tables_1, d.before a0 Z = true) (ws : List Jvm.Cond) (ar : Addr) (ka : ClassId) (x0 : Int64) (h0 : Heap) (n0 : Nat) (Z0 : n0 ≤ h0.size) (V_ar : Arv Z h0 ar ka .long (1 : Int32) [(.long x0)] (.long (0 : Int64))) :
    MetFree l (⟨"java/util/DualPivotQuicksort", "insertionSort", "([JII)V"⟩ : MethodName) (head1 (Jvm.Cond.code (⟨"java/util/DualPivotQuicksort", "insertionSort", "([JII)V"⟩ : MethodName) jdk_2529_method_15_code 7 none :: ws) ({ frames := 0, cells := 0, slots := 0, locals := 0 } : Room)) (fun a U => a = #[(.ref ar), (.int (0 : Int32)), (.int (1 : Int32))] ∧ Z.Warmed39 U.vm ∧ U.heap = h0) (fun _ _ _ _ _ => True) (fun _ U o U' => ∃ v L, o = .returned v ∧ Q_rmS1 Z ar ka x0 h0 n0 v U'.heap L ∧ FrameEnd U o U' L ({ frames := 0, cells := 0, slots := 0, locals := 0 } : Room).cells ({ frames := 0, cells := 0, slots := 0, locals := 0 } : Room).slots) := by
  refine MetFree.of_bodySF (plainFor_of_name pn_1) hisR ?_
  intro p e s m args below meth c s₁ Bd hml0 hP hK
  obtain ⟨rfl, hZ, hh⟩ := hP
  have hx := Bd.exec
  have hby := Bd.bytes
  have hml : c.maxLocals = 7 := hml0
  have hown : s.vm.findClass "java/util/DualPivotQuicksort" = some m.cls := findClass_of_methodNamed Bd.named
  have hnm := (name_of_methodNamed Bd.named Bd.method).1
  have X0 : Stand p l e ({ frames := 0, cells := 0, slots := 0, locals := 0 } : Room) s m #[(.ref ar), (.int (0 : Int32)), (.int (1 : Int32))] below meth c s₁ [] 0 0 := Stand.of_body Bd
  have e0 : s₁.heap = h0 := by rw [← hh, Bd.state]; rfl
  have N0 := Fr.nil n0
  have pre0 : ∀ t, Steps p.tables e below (s₁.setTop (mkF m 0 #[.val (.ref ar), .val (.int (0 : Int32)), .val (.int (1 : Int32)), .unset, .unset, .unset, .unset] [])) t → Steps p.tables e below (s₁.setTop (entryFrame m #[(.ref ar), (.int (0 : Int32)), (.int (1 : Int32))] 7)) t := fun t k => castTop (ef_rmS1 m ar) k
  obtain ⟨fs, hr, hrun, hended, hW, hsame⟩ := X0.leave (v := none) (fun _ => rfl)
  refine ⟨_, _, pre0 _ ?_, hrun, hended, _, _, rfl, ?_, ⟨_, rfl⟩, hW, hsame.mono (by decide) (by decide)⟩
  · show Steps p.tables e below (s₁.setTop (mkF m 0 #[.val (.ref ar), .val (.int (0 : Int32)), .val (.int (1 : Int32)), .unset, .unset, .unset, .unset] [])) _
    refine XS.iloadN X0.here hx rfl (hb hby d4_0) rfl ?_
    show Steps p.tables e below (s₁.setTop (mkF m 1 #[.val (.ref ar), .val (.int (0 : Int32)), .val (.int (1 : Int32)), .unset, .unset, .unset, .unset] [(.int (0 : Int32))])) _
    refine XS.istore X0.here hx rfl (hb hby d4_1) rfl (l' := #[.val (.ref ar), .val (.int (0 : Int32)), .val (.int (1 : Int32)), .unset, .val (.int (0 : Int32)), .unset, .unset]) rfl ?_
    show Steps p.tables e below (s₁.setTop (mkF m 3 #[.val (.ref ar), .val (.int (0 : Int32)), .val (.int (1 : Int32)), .unset, .val (.int (0 : Int32)), .unset, .unset] [])) _
    refine XS.iinc X0.here hx rfl (hb hby d4_3) rfl (l' := #[.val (.ref ar), .val (.int (0 : Int32)), .val (.int (1 : Int32)), .unset, .val (.int ((0 : Int32) + (1 : Int32))), .unset, .unset]) rfl ?_
    show Steps p.tables e below (s₁.setTop (mkF m 6 #[.val (.ref ar), .val (.int (0 : Int32)), .val (.int (1 : Int32)), .unset, .val (.int ((0 : Int32) + (1 : Int32))), .unset, .unset] [])) _
    rw [show ((0 : Int32) + (1 : Int32)) = (1 : Int32) from by decide]
    show Steps p.tables e below (s₁.setTop (mkF m 6 #[.val (.ref ar), .val (.int (0 : Int32)), .val (.int (1 : Int32)), .unset, .val (.int (1 : Int32)), .unset, .unset] [])) _
    refine XS.iload X0.here hx rfl (hb hby d4_6) rfl ?_
    show Steps p.tables e below (s₁.setTop (mkF m 8 #[.val (.ref ar), .val (.int (0 : Int32)), .val (.int (1 : Int32)), .unset, .val (.int (1 : Int32)), .unset, .unset] [(.int (1 : Int32))])) _
    refine XS.iloadN X0.here hx rfl (hb hby d4_8) rfl ?_
    show Steps p.tables e below (s₁.setTop (mkF m 9 #[.val (.ref ar), .val (.int (0 : Int32)), .val (.int (1 : Int32)), .unset, .val (.int (1 : Int32)), .unset, .unset] [(.int (1 : Int32)), (.int (1 : Int32))])) _
    refine XS.icmpYes X0.here hx rfl (pc0 := 9) (pc' := 69) rfl (hb hby d4_9) rfl (flt (by decide : ¬ ((1 : Int32) < (1 : Int32)))).2.1 (by decide) (by decide) ?_
    show Steps p.tables e below (s₁.setTop (mkF m 69 #[.val (.ref ar), .val (.int (0 : Int32)), .val (.int (1 : Int32)), .unset, .val (.int (1 : Int32)), .unset, .unset] [])) _
    exact X0.returnOut hx Bd.returns (hb hby d4_69) hr
  · show Q_rmS1 Z ar ka x0 h0 n0 _ s₁.heap _
    rw [e0]
    exact ⟨rfl, N0, (Keep.refl h0 [ar]), V_ar⟩
theorem d5_0 : decode jdk_2529_method_13_code 0 = .ok (.iload 4, 2) := by decide +kernel
theorem d5_2 : decode jdk_2529_method_13_code 2 = .ok (.iconst 1, 1) := by decide +kernel
theorem d5_3 : decode jdk_2529_method_13_code 3 = .ok (.isub, 1) := by decide +kernel
theorem d5_4 : decode jdk_2529_method_13_code 4 = .ok (.istore 5, 2) := by decide +kernel
theorem d5_6 : decode jdk_2529_method_13_code 6 = .ok (.iload 4, 2) := by decide +kernel
theorem d5_8 : decode jdk_2529_method_13_code 8 = .ok (.iload_n 3, 1) := by decide +kernel
theorem d5_9 : decode jdk_2529_method_13_code 9 = .ok (.isub, 1) := by decide +kernel
theorem d5_10 : decode jdk_2529_method_13_code 10 = .ok (.istore 6, 2) := by decide +kernel
theorem d5_12 : decode jdk_2529_method_13_code 12 = .ok (.iload 6, 2) := by decide +kernel
theorem d5_14 : decode jdk_2529_method_13_code 14 = .ok (.bipush 65, 2) := by decide +kernel
theorem d5_16 : decode jdk_2529_method_13_code 16 = .ok (.iload_n 2, 1) := by decide +kernel
theorem d5_17 : decode jdk_2529_method_13_code 17 = .ok (.iadd, 1) := by decide +kernel
theorem d5_18 : decode jdk_2529_method_13_code 18 = .ok (.if_icmp .ge 28, 3) := by decide +kernel
theorem d5_21 : decode jdk_2529_method_13_code 21 = .ok (.iload_n 2, 1) := by decide +kernel
theorem d5_22 : decode jdk_2529_method_13_code 22 = .ok (.iconst 1, 1) := by decide +kernel
theorem d5_23 : decode jdk_2529_method_13_code 23 = .ok (.iand, 1) := by decide +kernel
theorem d5_24 : decode jdk_2529_method_13_code 24 = .ok (.ifCond .le 22, 3) := by decide +kernel
theorem d5_46 : decode jdk_2529_method_13_code 46 = .ok (.iload 6, 2) := by decide +kernel
theorem d5_48 : decode jdk_2529_method_13_code 48 = .ok (.bipush 44, 2) := by decide +kernel
theorem d5_50 : decode jdk_2529_method_13_code 50 = .ok (.if_icmp .ge 11, 3) := by decide +kernel
theorem d5_53 : decode jdk_2529_method_13_code 53 = .ok (.aload_n 1, 1) := by decide +kernel
theorem d5_54 : decode jdk_2529_method_13_code 54 = .ok (.iload_n 3, 1) := by decide +kernel
theorem d5_55 : decode jdk_2529_method_13_code 55 = .ok (.iload 4, 2) := by decide +kernel
theorem d5_57 : decode jdk_2529_method_13_code 57 = .ok (.invokestatic 105, 3) := by decide +kernel
theorem pd_1 : parseMethodDescriptor "([JII)V" = some ⟨[(.array .long), .int, .int], none⟩ := by decide +kernel
theorem d5_60 : decode jdk_2529_method_13_code 60 = .ok (.return_, 1) := by decide +kernel
def Q_rmS5_1 (Z : State) (ar : Addr) (ka : ClassId) (x0 : Int64) (h0 : Heap) (n0 : Nat) (v : Option Value) (h : Heap) (L : List Loc) : Prop := v = none ∧ Fr n0 L ∧ Keep h0 h [ar] ∧ Arv Z h ar ka .long (1 : Int32) [(.long x0)] (.long (0 : Int64))
theorem ef_rmS5_1 (m : MethodId) (ar : Addr) : entryFrame m #[.null, (.ref ar), (.int (0 : Int32)), (.int (0 : Int32)), (.int (1 : Int32))] 25 = mkF m 0 #[.val .null, .val (.ref ar), .val (.int (0 : Int32)), .val (.int (0 : Int32)), .val (.int (1 : Int32)), .unset, .unset, .unset, .unset, .unset, .unset, .unset, .unset, .unset, .unset, .unset, .unset, .unset, .unset, .unset, .unset, .unset, .unset, .unset, .unset] [] := by first | (simp [entryFrame, mkF, argsToLocals, Value.category]; done) | rfl
set_option maxRecDepth 65536 in
set_option maxHeartbeats 40000000 in
theorem rmS5_1 (l : Launch) (Z : State) (a0 : Array Value) (hw : ∀ d ∈ tables_1, d.before a0 Z = true) (ws : List Jvm.Cond) (ar : Addr) (ka : ClassId) (x0 : Int64) (h0 : Heap) (n0 : Nat) (Z0 : n0 ≤ h0.size) (V_ar : Arv Z h0 ar ka .long (1 : Int32) [(.long x0)] (.long (0 : Int64))) :
    MetFree l (⟨"java/util/DualPivotQuicksort", "sort", "(Ljava/util/DualPivotQuicksort$Sorter;[JIII)V"⟩ : MethodName) (head1 (Jvm.Cond.code (⟨"java/util/DualPivotQuicksort", "sort", "(Ljava/util/DualPivotQuicksort$Sorter;[JIII)V"⟩ : MethodName) jdk_2529_method_13_code 25 none :: ws) ({ frames := 1, cells := 0, slots := 0, locals := 18 } : Room)) (fun a U => a = #[.null, (.ref ar), (.int (0 : Int32)), (.int (0 : Int32)), (.int (1 : Int32))] ∧ Z.Warmed39 U.vm ∧ U.heap = h0) (fun _ _ _ _ _ => True) (fun _ U o U' => ∃ v L, o = .returned v ∧ Q_rmS5_1 Z ar ka x0 h0 n0 v U'.heap L ∧ FrameEnd U o U' L ({ frames := 1, cells := 0, slots := 0, locals := 18 } : Room).cells ({ frames := 1, cells := 0, slots := 0, locals := 18 } : Room).slots) := by
  refine MetFree.of_bodySF (plainFor_of_name pn_1) hisR ?_
  intro p e s m args below meth c s₁ Bd hml0 hP hK
  obtain ⟨rfl, hZ, hh⟩ := hP
  have hx := Bd.exec
  have hby := Bd.bytes
  have hml : c.maxLocals = 25 := hml0
  have hown : s.vm.findClass "java/util/DualPivotQuicksort" = some m.cls := findClass_of_methodNamed Bd.named
  have hnm := (name_of_methodNamed Bd.named Bd.method).1
  have X0 : Stand p l e ({ frames := 1, cells := 0, slots := 0, locals := 18 } : Room) s m #[.null, (.ref ar), (.int (0 : Int32)), (.int (0 : Int32)), (.int (1 : Int32))] below meth c s₁ [] 0 0 := Stand.of_body Bd
  have e0 : s₁.heap = h0 := by rw [← hh, Bd.state]; rfl
  have N0 := Fr.nil n0
  have pre0 : ∀ t, Steps p.tables e below (s₁.setTop (mkF m 0 #[.val .null, .val (.ref ar), .val (.int (0 : Int32)), .val (.int (0 : Int32)), .val (.int (1 : Int32)), .unset, .unset, .unset, .unset, .unset, .unset, .unset, .unset, .unset, .unset, .unset, .unset, .unset, .unset, .unset, .unset, .unset, .unset, .unset, .unset] [])) t → Steps p.tables e below (s₁.setTop (entryFrame m #[.null, (.ref ar), (.int (0 : Int32)), (.int (0 : Int32)), (.int (1 : Int32))] 25)) t := fun t k => castTop (ef_rmS5_1 m ar) k
  obtain ⟨_, _, ⟨T1, L1, k1, n1⟩, -, X1, ⟨Lc1, hQ1, l1, y1, z1⟩, st1⟩ := Jvm.LawKit.callS X0 hx (y := (⟨"java/util/DualPivotQuicksort", "insertionSort", "([JII)V"⟩ : MethodName)) hown (mvT hZ (hw _ (List.mem_of_getElem? (i := 54) rfl))) (mvT hZ (hw _ (List.mem_of_getElem? (i := 55) rfl))) (mvT hZ (hw _ (List.mem_of_getElem? (i := 49) rfl))) (mvT hZ (hw _ (List.mem_of_getElem? (i := 56) rfl))) (by decide) (backOf (W := 0) (rmS1 l Z a0 hw [] ar ka x0 h0 n0 Z0 V_ar) hZ (hw _ (List.mem_of_getElem? (i := 56) rfl)) (hw _ (List.mem_of_getElem? (i := 49) rfl)) (by decide) (by decide)) (g := (mkF m 57 #[.val .null, .val (.ref ar), .val (.int (0 : Int32)), .val (.int (0 : Int32)), .val (.int (1 : Int32)), .val (.int (0 : Int32)), .val (.int (1 : Int32)), .unset, .unset, .unset, .unset, .unset, .unset, .unset, .unset, .unset, .unset, .unset, .unset, .unset, .unset, .unset, .unset, .unset, .unset] [(.int (1 : Int32)), (.int (0 : Int32)), (.ref ar)])) rfl (by rw [hml]; rfl) (argsL := [(.ref ar), (.int (0 : Int32)), (.int (1 : Int32))]) (rest := []) (lenOf pd_1 rfl) rfl (by show 2 * 0 + _ ≤ _; exact Nat.le_of_eq rfl) (hb hby d5_57) (fun _ _ => ⟨rfl, e0, (by decide : 0 + 0 ≤ _), (by decide : 0 + 0 ≤ _)⟩)
  dsimp only [Pt.U, Pt.locs, Pt.cells, Pt.slots] at X1 l1 y1 z1 st1 hQ1
  subst l1 y1 z1
  obtain ⟨rfl, Nq1, Kp1, Fq1_0⟩ := hQ1
  have N1 := Fr.app N0 Nq1
  obtain ⟨fs, hr, hrun, hended, hW, hsame⟩ := X1.leave (v := none) (fun _ => rfl)
  refine ⟨_, _, pre0 _ ?_, hrun, hended, _, _, rfl, ?_, ⟨_, rfl⟩, hW, hsame.mono (by decide) (by decide)⟩
  · show Steps p.tables e below (s₁.setTop (mkF m 0 #[.val .null, .val (.ref ar), .val (.int (0 : Int32)), .val (.int (0 : Int32)), .val (.int (1 : Int32)), .unset, .unset, .unset, .unset, .unset, .unset, .unset, .unset, .unset, .unset, .unset, .unset, .unset, .unset, .unset, .unset, .unset, .unset, .unset, .unset] [])) _
    refine XS.iload X0.here hx rfl (hb hby d5_0) rfl ?_
    show Steps p.tables e below (s₁.setTop (mkF m 2 #[.val .null, .val (.ref ar), .val (.int (0 : Int32)), .val (.int (0 : Int32)), .val (.int (1 : Int32)), .unset, .unset, .unset, .unset, .unset, .unset, .unset, .unset, .unset, .unset, .unset, .unset, .unset, .unset, .unset, .unset, .unset, .unset, .unset, .unset] [(.int (1 : Int32))])) _
    refine XS.iconst X0.here hx rfl (hb hby d5_2) ?_
    show Steps p.tables e below (s₁.setTop (mkF m 3 #[.val .null, .val (.ref ar), .val (.int (0 : Int32)), .val (.int (0 : Int32)), .val (.int (1 : Int32)), .unset, .unset, .unset, .unset, .unset, .unset, .unset, .unset, .unset, .unset, .unset, .unset, .unset, .unset, .unset, .unset, .unset, .unset, .unset, .unset] [(.int (1 : Int32)), (.int (1 : Int32))])) _
    refine XS.isub X0.here hx rfl (hb hby d5_3) rfl ?_
    show Steps p.tables e below (s₁.setTop (mkF m 4 #[.val .null, .val (.ref ar), .val (.int (0 : Int32)), .val (.int (0 : Int32)), .val (.int (1 : Int32)), .unset, .unset, .unset, .unset, .unset, .unset, .unset, .unset, .unset, .unset, .unset, .unset, .unset, .unset, .unset, .unset, .unset, .unset, .unset, .unset] [(.int ((1 : Int32) - (1 : Int32)))])) _
    rw [show ((1 : Int32) - (1 : Int32)) = (0 : Int32) from by decide]
    show Steps p.tables e below (s₁.setTop (mkF m 4 #[.val .null, .val (.ref ar), .val (.int (0 : Int32)), .val (.int (0 : Int32)), .val (.int (1 : Int32)), .unset, .unset, .unset, .unset, .unset, .unset, .unset, .unset, .unset, .unset, .unset, .unset, .unset, .unset, .unset, .unset, .unset, .unset, .unset, .unset] [(.int (0 : Int32))])) _
    refine XS.istore X0.here hx rfl (hb hby d5_4) rfl (l' := #[.val .null, .val (.ref ar), .val (.int (0 : Int32)), .val (.int (0 : Int32)), .val (.int (1 : Int32)), .val (.int (0 : Int32)), .unset, .unset, .unset, .unset, .unset, .unset, .unset, .unset, .unset, .unset, .unset, .unset, .unset, .unset, .unset, .unset, .unset, .unset, .unset]) rfl ?_
    show Steps p.tables e below (s₁.setTop (mkF m 6 #[.val .null, .val (.ref ar), .val (.int (0 : Int32)), .val (.int (0 : Int32)), .val (.int (1 : Int32)), .val (.int (0 : Int32)), .unset, .unset, .unset, .unset, .unset, .unset, .unset, .unset, .unset, .unset, .unset, .unset, .unset, .unset, .unset, .unset, .unset, .unset, .unset] [])) _
    refine XS.iload X0.here hx rfl (hb hby d5_6) rfl ?_
    show Steps p.tables e below (s₁.setTop (mkF m 8 #[.val .null, .val (.ref ar), .val (.int (0 : Int32)), .val (.int (0 : Int32)), .val (.int (1 : Int32)), .val (.int (0 : Int32)), .unset, .unset, .unset, .unset, .unset, .unset, .unset, .unset, .unset, .unset, .unset, .unset, .unset, .unset, .unset, .unset, .unset, .unset, .unset] [(.int (1 : Int32))])) _
    refine XS.iloadN X0.here hx rfl (hb hby d5_8) rfl ?_
    show Steps p.tables e below (s₁.setTop (mkF m 9 #[.val .null, .val (.ref ar), .val (.int (0 : Int32)), .val (.int (0 : Int32)), .val (.int (1 : Int32)), .val (.int (0 : Int32)), .unset, .unset, .unset, .unset, .unset, .unset, .unset, .unset, .unset, .unset, .unset, .unset, .unset, .unset, .unset, .unset, .unset, .unset, .unset] [(.int (0 : Int32)), (.int (1 : Int32))])) _
    refine XS.isub X0.here hx rfl (hb hby d5_9) rfl ?_
    show Steps p.tables e below (s₁.setTop (mkF m 10 #[.val .null, .val (.ref ar), .val (.int (0 : Int32)), .val (.int (0 : Int32)), .val (.int (1 : Int32)), .val (.int (0 : Int32)), .unset, .unset, .unset, .unset, .unset, .unset, .unset, .unset, .unset, .unset, .unset, .unset, .unset, .unset, .unset, .unset, .unset, .unset, .unset] [(.int ((1 : Int32) - (0 : Int32)))])) _
    rw [show ((1 : Int32) - (0 : Int32)) = (1 : Int32) from by decide]
    show Steps p.tables e below (s₁.setTop (mkF m 10 #[.val .null, .val (.ref ar), .val (.int (0 : Int32)), .val (.int (0 : Int32)), .val (.int (1 : Int32)), .val (.int (0 : Int32)), .unset, .unset, .unset, .unset, .unset, .unset, .unset, .unset, .unset, .unset, .unset, .unset, .unset, .unset, .unset, .unset, .unset, .unset, .unset] [(.int (1 : Int32))])) _
    refine XS.istore X0.here hx rfl (hb hby d5_10) rfl (l' := #[.val .null, .val (.ref ar), .val (.int (0 : Int32)), .val (.int (0 : Int32)), .val (.int (1 : Int32)), .val (.int (0 : Int32)), .val (.int (1 : Int32)), .unset, .unset, .unset, .unset, .unset, .unset, .unset, .unset, .unset, .unset, .unset, .unset, .unset, .unset, .unset, .unset, .unset, .unset]) rfl ?_
    show Steps p.tables e below (s₁.setTop (mkF m 12 #[.val .null, .val (.ref ar), .val (.int (0 : Int32)), .val (.int (0 : Int32)), .val (.int (1 : Int32)), .val (.int (0 : Int32)), .val (.int (1 : Int32)), .unset, .unset, .unset, .unset, .unset, .unset, .unset, .unset, .unset, .unset, .unset, .unset, .unset, .unset, .unset, .unset, .unset, .unset] [])) _
    refine XS.iload X0.here hx rfl (hb hby d5_12) rfl ?_
    show Steps p.tables e below (s₁.setTop (mkF m 14 #[.val .null, .val (.ref ar), .val (.int (0 : Int32)), .val (.int (0 : Int32)), .val (.int (1 : Int32)), .val (.int (0 : Int32)), .val (.int (1 : Int32)), .unset, .unset, .unset, .unset, .unset, .unset, .unset, .unset, .unset, .unset, .unset, .unset, .unset, .unset, .unset, .unset, .unset, .unset] [(.int (1 : Int32))])) _
    refine XS.bipush X0.here hx rfl (hb hby d5_14) ?_
    show Steps p.tables e below (s₁.setTop (mkF m 16 #[.val .null, .val (.ref ar), .val (.int (0 : Int32)), .val (.int (0 : Int32)), .val (.int (1 : Int32)), .val (.int (0 : Int32)), .val (.int (1 : Int32)), .unset, .unset, .unset, .unset, .unset, .unset, .unset, .unset, .unset, .unset, .unset, .unset, .unset, .unset, .unset, .unset, .unset, .unset] [(.int (65 : Int32)), (.int (1 : Int32))])) _
    refine XS.iloadN X0.here hx rfl (hb hby d5_16) rfl ?_
    show Steps p.tables e below (s₁.setTop (mkF m 17 #[.val .null, .val (.ref ar), .val (.int (0 : Int32)), .val (.int (0 : Int32)), .val (.int (1 : Int32)), .val (.int (0 : Int32)), .val (.int (1 : Int32)), .unset, .unset, .unset, .unset, .unset, .unset, .unset, .unset, .unset, .unset, .unset, .unset, .unset, .unset, .unset, .unset, .unset, .unset] [(.int (0 : Int32)), (.int (65 : Int32)), (.int (1 : Int32))])) _
    refine XS.iadd X0.here hx rfl (hb hby d5_17) rfl ?_
    show Steps p.tables e below (s₁.setTop (mkF m 18 #[.val .null, .val (.ref ar), .val (.int (0 : Int32)), .val (.int (0 : Int32)), .val (.int (1 : Int32)), .val (.int (0 : Int32)), .val (.int (1 : Int32)), .unset, .unset, .unset, .unset, .unset, .unset, .unset, .unset, .unset, .unset, .unset, .unset, .unset, .unset, .unset, .unset, .unset, .unset] [(.int ((65 : Int32) + (0 : Int32))), (.int (1 : Int32))])) _
    rw [show ((65 : Int32) + (0 : Int32)) = (65 : Int32) from by decide]
    show Steps p.tables e below (s₁.setTop (mkF m 18 #[.val .null, .val (.ref ar), .val (.int (0 : Int32)), .val (.int (0 : Int32)), .val (.int (1 : Int32)), .val (.int (0 : Int32)), .val (.int (1 : Int32)), .unset, .unset, .unset, .unset, .unset, .unset, .unset, .unset, .unset, .unset, .unset, .unset, .unset, .unset, .unset, .unset, .unset, .unset] [(.int (65 : Int32)), (.int (1 : Int32))])) _
    refine XS.icmpNo X0.here hx rfl (hb hby d5_18) rfl (tlt (by decide : (1 : Int32) < (65 : Int32))).2.1 ?_
    show Steps p.tables e below (s₁.setTop (mkF m 21 #[.val .null, .val (.ref ar), .val (.int (0 : Int32)), .val (.int (0 : Int32)), .val (.int (1 : Int32)), .val (.int (0 : Int32)), .val (.int (1 : Int32)), .unset, .unset, .unset, .unset, .unset, .unset, .unset, .unset, .unset, .unset, .unset, .unset, .unset, .unset, .unset, .unset, .unset, .unset] [])) _
    refine XS.iloadN X0.here hx rfl (hb hby d5_21) rfl ?_
    show Steps p.tables e below (s₁.setTop (mkF m 22 #[.val .null, .val (.ref ar), .val (.int (0 : Int32)), .val (.int (0 : Int32)), .val (.int (1 : Int32)), .val (.int (0 : Int32)), .val (.int (1 : Int32)), .unset, .unset, .unset, .unset, .unset, .unset, .unset, .unset, .unset, .unset, .unset, .unset, .unset, .unset, .unset, .unset, .unset, .unset] [(.int (0 : Int32))])) _
    refine XS.iconst X0.here hx rfl (hb hby d5_22) ?_
    show Steps p.tables e below (s₁.setTop (mkF m 23 #[.val .null, .val (.ref ar), .val (.int (0 : Int32)), .val (.int (0 : Int32)), .val (.int (1 : Int32)), .val (.int (0 : Int32)), .val (.int (1 : Int32)), .unset, .unset, .unset, .unset, .unset, .unset, .unset, .unset, .unset, .unset, .unset, .unset, .unset, .unset, .unset, .unset, .unset, .unset] [(.int (1 : Int32)), (.int (0 : Int32))])) _
    refine XS.iand X0.here hx rfl (hb hby d5_23) rfl ?_
    show Steps p.tables e below (s₁.setTop (mkF m 24 #[.val .null, .val (.ref ar), .val (.int (0 : Int32)), .val (.int (0 : Int32)), .val (.int (1 : Int32)), .val (.int (0 : Int32)), .val (.int (1 : Int32)), .unset, .unset, .unset, .unset, .unset, .unset, .unset, .unset, .unset, .unset, .unset, .unset, .unset, .unset, .unset, .unset, .unset, .unset] [(.int ((0 : Int32) &&& (1 : Int32)))])) _
    rw [show ((0 : Int32) &&& (1 : Int32)) = (0 : Int32) from by decide]
    show Steps p.tables e below (s₁.setTop (mkF m 24 #[.val .null, .val (.ref ar), .val (.int (0 : Int32)), .val (.int (0 : Int32)), .val (.int (1 : Int32)), .val (.int (0 : Int32)), .val (.int (1 : Int32)), .unset, .unset, .unset, .unset, .unset, .unset, .unset, .unset, .unset, .unset, .unset, .unset, .unset, .unset, .unset, .unset, .unset, .unset] [(.int (0 : Int32))])) _
    refine XS.ifYes X0.here hx rfl (pc0 := 24) (pc' := 46) rfl (hb hby d5_24) rfl ((if0 _ _).trans (flt (by decide : ¬ ((0 : Int32) < (0 : Int32)))).2.2.2) (by decide) (by decide) ?_
    show Steps p.tables e below (s₁.setTop (mkF m 46 #[.val .null, .val (.ref ar), .val (.int (0 : Int32)), .val (.int (0 : Int32)), .val (.int (1 : Int32)), .val (.int (0 : Int32)), .val (.int (1 : Int32)), .unset, .unset, .unset, .unset, .unset, .unset, .unset, .unset, .unset, .unset, .unset, .unset, .unset, .unset, .unset, .unset, .unset, .unset] [])) _
    refine XS.iload X0.here hx rfl (hb hby d5_46) rfl ?_
    show Steps p.tables e below (s₁.setTop (mkF m 48 #[.val .null, .val (.ref ar), .val (.int (0 : Int32)), .val (.int (0 : Int32)), .val (.int (1 : Int32)), .val (.int (0 : Int32)), .val (.int (1 : Int32)), .unset, .unset, .unset, .unset, .unset, .unset, .unset, .unset, .unset, .unset, .unset, .unset, .unset, .unset, .unset, .unset, .unset, .unset] [(.int (1 : Int32))])) _
    refine XS.bipush X0.here hx rfl (hb hby d5_48) ?_
    show Steps p.tables e below (s₁.setTop (mkF m 50 #[.val .null, .val (.ref ar), .val (.int (0 : Int32)), .val (.int (0 : Int32)), .val (.int (1 : Int32)), .val (.int (0 : Int32)), .val (.int (1 : Int32)), .unset, .unset, .unset, .unset, .unset, .unset, .unset, .unset, .unset, .unset, .unset, .unset, .unset, .unset, .unset, .unset, .unset, .unset] [(.int (44 : Int32)), (.int (1 : Int32))])) _
    refine XS.icmpNo X0.here hx rfl (hb hby d5_50) rfl (tlt (by decide : (1 : Int32) < (44 : Int32))).2.1 ?_
    show Steps p.tables e below (s₁.setTop (mkF m 53 #[.val .null, .val (.ref ar), .val (.int (0 : Int32)), .val (.int (0 : Int32)), .val (.int (1 : Int32)), .val (.int (0 : Int32)), .val (.int (1 : Int32)), .unset, .unset, .unset, .unset, .unset, .unset, .unset, .unset, .unset, .unset, .unset, .unset, .unset, .unset, .unset, .unset, .unset, .unset] [])) _
    refine XS.aloadN X0.here hx rfl (hb hby d5_53) rfl rfl ?_
    show Steps p.tables e below (s₁.setTop (mkF m 54 #[.val .null, .val (.ref ar), .val (.int (0 : Int32)), .val (.int (0 : Int32)), .val (.int (1 : Int32)), .val (.int (0 : Int32)), .val (.int (1 : Int32)), .unset, .unset, .unset, .unset, .unset, .unset, .unset, .unset, .unset, .unset, .unset, .unset, .unset, .unset, .unset, .unset, .unset, .unset] [(.ref ar)])) _
    refine XS.iloadN X0.here hx rfl (hb hby d5_54) rfl ?_
    show Steps p.tables e below (s₁.setTop (mkF m 55 #[.val .null, .val (.ref ar), .val (.int (0 : Int32)), .val (.int (0 : Int32)), .val (.int (1 : Int32)), .val (.int (0 : Int32)), .val (.int (1 : Int32)), .unset, .unset, .unset, .unset, .unset, .unset, .unset, .unset, .unset, .unset, .unset, .unset, .unset, .unset, .unset, .unset, .unset, .unset] [(.int (0 : Int32)), (.ref ar)])) _
    refine XS.iload X0.here hx rfl (hb hby d5_55) rfl ?_
    show Steps p.tables e below (s₁.setTop (mkF m 57 #[.val .null, .val (.ref ar), .val (.int (0 : Int32)), .val (.int (0 : Int32)), .val (.int (1 : Int32)), .val (.int (0 : Int32)), .val (.int (1 : Int32)), .unset, .unset, .unset, .unset, .unset, .unset, .unset, .unset, .unset, .unset, .unset, .unset, .unset, .unset, .unset, .unset, .unset, .unset] [(.int (1 : Int32)), (.int (0 : Int32)), (.ref ar)])) _
    refine st1 _ ?_
    show Steps p.tables e below (T1.setTop (mkF m 60 #[.val .null, .val (.ref ar), .val (.int (0 : Int32)), .val (.int (0 : Int32)), .val (.int (1 : Int32)), .val (.int (0 : Int32)), .val (.int (1 : Int32)), .unset, .unset, .unset, .unset, .unset, .unset, .unset, .unset, .unset, .unset, .unset, .unset, .unset, .unset, .unset, .unset, .unset, .unset] [])) _
    exact X1.returnOut hx Bd.returns (hb hby d5_60) hr
  · show Q_rmS5_1 Z ar ka x0 h0 n0 _ T1.heap _
    exact ⟨rfl, N1, ((Keep.refl h0 [ar]).trans Kp1 (allS (Or.inl (List.mem_of_getElem? (i := 0) rfl)) all0)), Fq1_0⟩
theorem d6_0 : decode jdk_2529_method_12_code 0 = .ok (.iload_n 3, 1) := by decide +kernel
theorem d6_1 : decode jdk_2529_method_12_code 1 = .ok (.iload_n 2, 1) := by decide +kernel
theorem d6_2 : decode jdk_2529_method_12_code 2 = .ok (.isub, 1) := by decide +kernel
theorem d6_3 : decode jdk_2529_method_12_code 3 = .ok (.istore 4, 2) := by decide +kernel
theorem d6_5 : decode jdk_2529_method_12_code 5 = .ok (.iload_n 1, 1) := by decide +kernel
theorem d6_6 : decode jdk_2529_method_12_code 6 = .ok (.iconst 1, 1) := by decide +kernel
theorem d6_7 : decode jdk_2529_method_12_code 7 = .ok (.if_icmp .le 61, 3) := by decide +kernel
theorem d6_68 : decode jdk_2529_method_12_code 68 = .ok (.aconst_null, 1) := by decide +kernel
theorem d6_69 : decode jdk_2529_method_12_code 69 = .ok (.aload_n 0, 1) := by decide +kernel
theorem d6_70 : decode jdk_2529_method_12_code 70 = .ok (.iconst 0, 1) := by decide +kernel
theorem d6_71 : decode jdk_2529_method_12_code 71 = .ok (.iload_n 2, 1) := by decide +kernel
theorem d6_72 : decode jdk_2529_method_12_code 72 = .ok (.iload_n 3, 1) := by decide +kernel
theorem d6_73 : decode jdk_2529_method_12_code 73 = .ok (.invokestatic 99, 3) := by decide +kernel
theorem pd_2 : parseMethodDescriptor "(Ljava/util/DualPivotQuicksort$Sorter;[JIII)V" = some ⟨[(.object "java/util/DualPivotQuicksort$Sorter"), (.array .long), .int, .int, .int], none⟩ := by decide +kernel
theorem d6_76 : decode jdk_2529_method_12_code 76 = .ok (.return_, 1) := by decide +kernel
def Q_rmS4_1 (Z : State) (ar : Addr) (ka : ClassId) (x0 : Int64) (h0 : Heap) (n0 : Nat) (v : Option Value) (h : Heap) (L : List Loc) : Prop := v = none ∧ Fr n0 L ∧ Keep h0 h [ar] ∧ Arv Z h ar ka .long (1 : Int32) [(.long x0)] (.long (0 : Int64))
theorem ef_rmS4_1 (m : MethodId) (ar : Addr) : entryFrame m #[(.ref ar), (.int (0 : Int32)), (.int (0 : Int32)), (.int (1 : Int32))] 7 = mkF m 0 #[.val (.ref ar), .val (.int (0 : Int32)), .val (.int (0 : Int32)), .val (.int (1 : Int32)), .unset, .unset, .unset] [] := by first | (simp [entryFrame, mkF, argsToLocals, Value.category]; done) | rfl
set_option maxRecDepth 65536 in
set_option maxHeartbeats 40000000 in
theorem rmS4_1 (l : Launch) (Z : State) (a0 : Array Value) (hw : ∀ d ∈ tables_1, d.before a0 Z = true) (ws : List Jvm.Cond) (ar : Addr) (ka : ClassId) (x0 : Int64) (h0 : Heap) (n0 : Nat) (Z0 : n0 ≤ h0.size) (V_ar : Arv Z h0 ar ka .long (1 : Int32) [(.long x0)] (.long (0 : Int64))) :
    MetFree l (⟨"java/util/DualPivotQuicksort", "sort", "([JIII)V"⟩ : MethodName) (head1 (Jvm.Cond.code (⟨"java/util/DualPivotQuicksort", "sort", "([JIII)V"⟩ : MethodName) jdk_2529_method_12_code 7 none :: ws) ({ frames := 2, cells := 0, slots := 0, locals := 54 } : Room)) (fun a U => a = #[(.ref ar), (.int (0 : Int32)), (.int (0 : Int32)), (.int (1 : Int32))] ∧ Z.Warmed39 U.vm ∧ U.heap = h0) (fun _ _ _ _ _ => True) (fun _ U o U' => ∃ v L, o = .returned v ∧ Q_rmS4_1 Z ar ka x0 h0 n0 v U'.heap L ∧ FrameEnd U o U' L ({ frames := 2, cells := 0, slots := 0, locals := 54 } : Room).cells ({ frames := 2, cells := 0, slots := 0, locals := 54 } : Room).slots) := by
  refine MetFree.of_bodySF (plainFor_of_name pn_1) hisR ?_
  intro p e s m args below meth c s₁ Bd hml0 hP hK
  obtain ⟨rfl, hZ, hh⟩ := hP
  have hx := Bd.exec
  have hby := Bd.bytes
  have hml : c.maxLocals = 7 := hml0
  have hown : s.vm.findClass "java/util/DualPivotQuicksort" = some m.cls := findClass_of_methodNamed Bd.named
  have hnm := (name_of_methodNamed Bd.named Bd.method).1
  have X0 : Stand p l e ({ frames := 2, cells := 0, slots := 0, locals := 54 } : Room) s m #[(.ref ar), (.int (0 : Int32)), (.int (0 : Int32)), (.int (1 : Int32))] below meth c s₁ [] 0 0 := Stand.of_body Bd
  have e0 : s₁.heap = h0 := by rw [← hh, Bd.state]; rfl
  have N0 := Fr.nil n0
  have pre0 : ∀ t, Steps p.tables e below (s₁.setTop (mkF m 0 #[.val (.ref ar), .val (.int (0 : Int32)), .val (.int (0 : Int32)), .val (.int (1 : Int32)), .unset, .unset, .unset] [])) t → Steps p.tables e below (s₁.setTop (entryFrame m #[(.ref ar), (.int (0 : Int32)), (.int (0 : Int32)), (.int (1 : Int32))] 7)) t := fun t k => castTop (ef_rmS4_1 m ar) k
  obtain ⟨_, _, ⟨T1, L1, k1, n1⟩, -, X1, ⟨Lc1, hQ1, l1, y1, z1⟩, st1⟩ := Jvm.LawKit.callS X0 hx (y := (⟨"java/util/DualPivotQuicksort", "sort", "(Ljava/util/DualPivotQuicksort$Sorter;[JIII)V"⟩ : MethodName)) hown (mvT hZ (hw _ (List.mem_of_getElem? (i := 51) rfl))) (mvT hZ (hw _ (List.mem_of_getElem? (i := 52) rfl))) (mvT hZ (hw _ (List.mem_of_getElem? (i := 49) rfl))) (mvT hZ (hw _ (List.mem_of_getElem? (i := 53) rfl))) (by decide) (backOf (W := 0) (rmS5_1 l Z a0 hw [] ar ka x0 h0 n0 Z0 V_ar) hZ (hw _ (List.mem_of_getElem? (i := 53) rfl)) (hw _ (List.mem_of_getElem? (i := 49) rfl)) (by decide) (by decide)) (g := (mkF m 73 #[.val (.ref ar), .val (.int (0 : Int32)), .val (.int (0 : Int32)), .val (.int (1 : Int32)), .val (.int (1 : Int32)), .unset, .unset] [(.int (1 : Int32)), (.int (0 : Int32)), (.int (0 : Int32)), (.ref ar), .null])) rfl (by rw [hml]; rfl) (argsL := [.null, (.ref ar), (.int (0 : Int32)), (.int (0 : Int32)), (.int (1 : Int32))]) (rest := []) (lenOf pd_2 rfl) rfl (by show 2 * 0 + _ ≤ _; exact Nat.le_of_eq rfl) (hb hby d6_73) (fun _ _ => ⟨rfl, e0, (by decide : 0 + 0 ≤ _), (by decide : 0 + 0 ≤ _)⟩)
  dsimp only [Pt.U, Pt.locs, Pt.cells, Pt.slots] at X1 l1 y1 z1 st1 hQ1
  subst l1 y1 z1
  obtain ⟨rfl, Nq1, Kp1, Fq1_0⟩ := hQ1
  have N1 := Fr.app N0 Nq1
  obtain ⟨fs, hr, hrun, hended, hW, hsame⟩ := X1.leave (v := none) (fun _ => rfl)
  refine ⟨_, _, pre0 _ ?_, hrun, hended, _, _, rfl, ?_, ⟨_, rfl⟩, hW, hsame.mono (by decide) (by decide)⟩
  · show Steps p.tables e below (s₁.setTop (mkF m 0 #[.val (.ref ar), .val (.int (0 : Int32)), .val (.int (0 : Int32)), .val (.int (1 : Int32)), .unset, .unset, .unset] [])) _
    refine XS.iloadN X0.here hx rfl (hb hby d6_0) rfl ?_
    show Steps p.tables e below (s₁.setTop (mkF m 1 #[.val (.ref ar), .val (.int (0 : Int32)), .val (.int (0 : Int32)), .val (.int (1 : Int32)), .unset, .unset, .unset] [(.int (1 : Int32))])) _
    refine XS.iloadN X0.here hx rfl (hb hby d6_1) rfl ?_
    show Steps p.tables e below (s₁.setTop (mkF m 2 #[.val (.ref ar), .val (.int (0 : Int32)), .val (.int (0 : Int32)), .val (.int (1 : Int32)), .unset, .unset, .unset] [(.int (0 : Int32)), (.int (1 : Int32))])) _
    refine XS.isub X0.here hx rfl (hb hby d6_2) rfl ?_
    show Steps p.tables e below (s₁.setTop (mkF m 3 #[.val (.ref ar), .val (.int (0 : Int32)), .val (.int (0 : Int32)), .val (.int (1 : Int32)), .unset, .unset, .unset] [(.int ((1 : Int32) - (0 : Int32)))])) _
    rw [show ((1 : Int32) - (0 : Int32)) = (1 : Int32) from by decide]
    show Steps p.tables e below (s₁.setTop (mkF m 3 #[.val (.ref ar), .val (.int (0 : Int32)), .val (.int (0 : Int32)), .val (.int (1 : Int32)), .unset, .unset, .unset] [(.int (1 : Int32))])) _
    refine XS.istore X0.here hx rfl (hb hby d6_3) rfl (l' := #[.val (.ref ar), .val (.int (0 : Int32)), .val (.int (0 : Int32)), .val (.int (1 : Int32)), .val (.int (1 : Int32)), .unset, .unset]) rfl ?_
    show Steps p.tables e below (s₁.setTop (mkF m 5 #[.val (.ref ar), .val (.int (0 : Int32)), .val (.int (0 : Int32)), .val (.int (1 : Int32)), .val (.int (1 : Int32)), .unset, .unset] [])) _
    refine XS.iloadN X0.here hx rfl (hb hby d6_5) rfl ?_
    show Steps p.tables e below (s₁.setTop (mkF m 6 #[.val (.ref ar), .val (.int (0 : Int32)), .val (.int (0 : Int32)), .val (.int (1 : Int32)), .val (.int (1 : Int32)), .unset, .unset] [(.int (0 : Int32))])) _
    refine XS.iconst X0.here hx rfl (hb hby d6_6) ?_
    show Steps p.tables e below (s₁.setTop (mkF m 7 #[.val (.ref ar), .val (.int (0 : Int32)), .val (.int (0 : Int32)), .val (.int (1 : Int32)), .val (.int (1 : Int32)), .unset, .unset] [(.int (1 : Int32)), (.int (0 : Int32))])) _
    refine XS.icmpYes X0.here hx rfl (pc0 := 7) (pc' := 68) rfl (hb hby d6_7) rfl (flt (by decide : ¬ ((1 : Int32) < (0 : Int32)))).2.2.2 (by decide) (by decide) ?_
    show Steps p.tables e below (s₁.setTop (mkF m 68 #[.val (.ref ar), .val (.int (0 : Int32)), .val (.int (0 : Int32)), .val (.int (1 : Int32)), .val (.int (1 : Int32)), .unset, .unset] [])) _
    refine XS.aconstNull X0.here hx rfl (hb hby d6_68) ?_
    show Steps p.tables e below (s₁.setTop (mkF m 69 #[.val (.ref ar), .val (.int (0 : Int32)), .val (.int (0 : Int32)), .val (.int (1 : Int32)), .val (.int (1 : Int32)), .unset, .unset] [.null])) _
    refine XS.aloadN X0.here hx rfl (hb hby d6_69) rfl rfl ?_
    show Steps p.tables e below (s₁.setTop (mkF m 70 #[.val (.ref ar), .val (.int (0 : Int32)), .val (.int (0 : Int32)), .val (.int (1 : Int32)), .val (.int (1 : Int32)), .unset, .unset] [(.ref ar), .null])) _
    refine XS.iconst X0.here hx rfl (hb hby d6_70) ?_
    show Steps p.tables e below (s₁.setTop (mkF m 71 #[.val (.ref ar), .val (.int (0 : Int32)), .val (.int (0 : Int32)), .val (.int (1 : Int32)), .val (.int (1 : Int32)), .unset, .unset] [(.int (0 : Int32)), (.ref ar), .null])) _
    refine XS.iloadN X0.here hx rfl (hb hby d6_71) rfl ?_
    show Steps p.tables e below (s₁.setTop (mkF m 72 #[.val (.ref ar), .val (.int (0 : Int32)), .val (.int (0 : Int32)), .val (.int (1 : Int32)), .val (.int (1 : Int32)), .unset, .unset] [(.int (0 : Int32)), (.int (0 : Int32)), (.ref ar), .null])) _
    refine XS.iloadN X0.here hx rfl (hb hby d6_72) rfl ?_
    show Steps p.tables e below (s₁.setTop (mkF m 73 #[.val (.ref ar), .val (.int (0 : Int32)), .val (.int (0 : Int32)), .val (.int (1 : Int32)), .val (.int (1 : Int32)), .unset, .unset] [(.int (1 : Int32)), (.int (0 : Int32)), (.int (0 : Int32)), (.ref ar), .null])) _
    refine st1 _ ?_
    show Steps p.tables e below (T1.setTop (mkF m 76 #[.val (.ref ar), .val (.int (0 : Int32)), .val (.int (0 : Int32)), .val (.int (1 : Int32)), .val (.int (1 : Int32)), .unset, .unset] [])) _
    exact X1.returnOut hx Bd.returns (hb hby d6_76) hr
  · show Q_rmS4_1 Z ar ka x0 h0 n0 _ T1.heap _
    exact ⟨rfl, N1, ((Keep.refl h0 [ar]).trans Kp1 (allS (Or.inl (List.mem_of_getElem? (i := 0) rfl)) all0)), Fq1_0⟩
theorem d7_0 : decode jdk_65_method_4_code 0 = .ok (.aload_n 0, 1) := by decide +kernel
theorem d7_1 : decode jdk_65_method_4_code 1 = .ok (.iconst 0, 1) := by decide +kernel
theorem d7_2 : decode jdk_65_method_4_code 2 = .ok (.iconst 0, 1) := by decide +kernel
theorem d7_3 : decode jdk_65_method_4_code 3 = .ok (.aload_n 0, 1) := by decide +kernel
theorem d7_4 : decode jdk_65_method_4_code 4 = .ok (.arraylength, 1) := by decide +kernel
theorem d7_5 : decode jdk_65_method_4_code 5 = .ok (.invokestatic 19, 3) := by decide +kernel
theorem pd_3 : parseMethodDescriptor "([JIII)V" = some ⟨[(.array .long), .int, .int, .int], none⟩ := by decide +kernel
theorem d7_8 : decode jdk_65_method_4_code 8 = .ok (.return_, 1) := by decide +kernel
theorem pn_2 : plainName "java/util/Arrays" = true := by first | (simp [plainName, overriddenIn]; done) | decide +kernel
def Q_rmS1_1 (Z : State) (ar : Addr) (ka : ClassId) (x0 : Int64) (h0 : Heap) (n0 : Nat) (v : Option Value) (h : Heap) (L : List Loc) : Prop := v = none ∧ Fr n0 L ∧ Keep h0 h [ar] ∧ Arv Z h ar ka .long (1 : Int32) [(.long x0)] (.long (0 : Int64))
theorem ef_rmS1_1 (m : MethodId) (ar : Addr) : entryFrame m #[(.ref ar)] 1 = mkF m 0 #[.val (.ref ar)] [] := by first | (simp [entryFrame, mkF, argsToLocals, Value.category]; done) | rfl
set_option maxRecDepth 65536 in
set_option maxHeartbeats 40000000 in
theorem rmS1_1 (l : Launch) (Z : State) (a0 : Array Value) (hw : ∀ d ∈ tables_1, d.before a0 Z = true) (ws : List Jvm.Cond) (ar : Addr) (ka : ClassId) (x0 : Int64) (h0 : Heap) (n0 : Nat) (Z0 : n0 ≤ h0.size) (V_ar : Arv Z h0 ar ka .long (1 : Int32) [(.long x0)] (.long (0 : Int64))) :
    MetFree l (⟨"java/util/Arrays", "sort", "([J)V"⟩ : MethodName) (head1 (Jvm.Cond.code (⟨"java/util/Arrays", "sort", "([J)V"⟩ : MethodName) jdk_65_method_4_code 1 none :: ws) ({ frames := 3, cells := 0, slots := 0, locals := 72 } : Room)) (fun a U => a = #[(.ref ar)] ∧ Z.Warmed39 U.vm ∧ U.heap = h0) (fun _ _ _ _ _ => True) (fun _ U o U' => ∃ v L, o = .returned v ∧ Q_rmS1_1 Z ar ka x0 h0 n0 v U'.heap L ∧ FrameEnd U o U' L ({ frames := 3, cells := 0, slots := 0, locals := 72 } : Room).cells ({ frames := 3, cells := 0, slots := 0, locals := 72 } : Room).slots) := by
  refine MetFree.of_bodySF (plainFor_of_name pn_2) hisR ?_
  intro p e s m args below meth c s₁ Bd hml0 hP hK
  obtain ⟨rfl, hZ, hh⟩ := hP
  have hx := Bd.exec
  have hby := Bd.bytes
  have hml : c.maxLocals = 1 := hml0
  have hown : s.vm.findClass "java/util/Arrays" = some m.cls := findClass_of_methodNamed Bd.named
  have hnm := (name_of_methodNamed Bd.named Bd.method).1
  have X0 : Stand p l e ({ frames := 3, cells := 0, slots := 0, locals := 72 } : Room) s m #[(.ref ar)] below meth c s₁ [] 0 0 := Stand.of_body Bd
  have e0 : s₁.heap = h0 := by rw [← hh, Bd.state]; rfl
  have N0 := Fr.nil n0
  have pre0 : ∀ t, Steps p.tables e below (s₁.setTop (mkF m 0 #[.val (.ref ar)] [])) t → Steps p.tables e below (s₁.setTop (entryFrame m #[(.ref ar)] 1)) t := fun t k => castTop (ef_rmS1_1 m ar) k
  have Vc1 := V_ar
  obtain ⟨cl1, Ar1, -, S1, M1, -, -⟩ := Vc1
  obtain ⟨_, _, ⟨T2, L2, k2, n2⟩, -, X2, ⟨Lc2, hQ2, l2, y2, z2⟩, st2⟩ := Jvm.LawKit.callS X0 hx (y := (⟨"java/util/DualPivotQuicksort", "sort", "([JIII)V"⟩ : MethodName)) hown (mvT hZ (hw _ (List.mem_of_getElem? (i := 47) rfl))) (mvT hZ (hw _ (List.mem_of_getElem? (i := 48) rfl))) (mvT hZ (hw _ (List.mem_of_getElem? (i := 49) rfl))) (mvT hZ (hw _ (List.mem_of_getElem? (i := 50) rfl))) (by decide) (backOf (W := 0) (rmS4_1 l Z a0 hw [] ar ka x0 h0 n0 Z0 V_ar) hZ (hw _ (List.mem_of_getElem? (i := 50) rfl)) (hw _ (List.mem_of_getElem? (i := 49) rfl)) (by decide) (by decide)) (g := (mkF m 5 #[.val (.ref ar)] [(.int (1 : Int32)), (.int (0 : Int32)), (.int (0 : Int32)), (.ref ar)])) rfl (by rw [hml]; rfl) (argsL := [(.ref ar), (.int (0 : Int32)), (.int (0 : Int32)), (.int (1 : Int32))]) (rest := []) (lenOf pd_3 rfl) rfl (by show 2 * 0 + _ ≤ _; exact Nat.le_of_eq rfl) (hb hby d7_5) (fun _ _ => ⟨rfl, e0, (by decide : 0 + 0 ≤ _), (by decide : 0 + 0 ≤ _)⟩)
  dsimp only [Pt.U, Pt.locs, Pt.cells, Pt.slots] at X2 l2 y2 z2 st2 hQ2
  subst l2 y2 z2
  obtain ⟨rfl, Nq2, Kp2, Fq2_0⟩ := hQ2
  have N2 := Fr.app N0 Nq2
  obtain ⟨fs, hr, hrun, hended, hW, hsame⟩ := X2.leave (v := none) (fun _ => rfl)
  refine ⟨_, _, pre0 _ ?_, hrun, hended, _, _, rfl, ?_, ⟨_, rfl⟩, hW, hsame.mono (by decide) (by decide)⟩
  · show Steps p.tables e below (s₁.setTop (mkF m 0 #[.val (.ref ar)] [])) _
    refine XS.aloadN X0.here hx rfl (hb hby d7_0) rfl rfl ?_
    show Steps p.tables e below (s₁.setTop (mkF m 1 #[.val (.ref ar)] [(.ref ar)])) _
    refine XS.iconst X0.here hx rfl (hb hby d7_1) ?_
    show Steps p.tables e below (s₁.setTop (mkF m 2 #[.val (.ref ar)] [(.int (0 : Int32)), (.ref ar)])) _
    refine XS.iconst X0.here hx rfl (hb hby d7_2) ?_
    show Steps p.tables e below (s₁.setTop (mkF m 3 #[.val (.ref ar)] [(.int (0 : Int32)), (.int (0 : Int32)), (.ref ar)])) _
    refine XS.aloadN X0.here hx rfl (hb hby d7_3) rfl rfl ?_
    show Steps p.tables e below (s₁.setTop (mkF m 4 #[.val (.ref ar)] [(.ref ar), (.int (0 : Int32)), (.int (0 : Int32)), (.ref ar)])) _
    refine X0.arraylength hx (cell := cl1) (by rw [e0]; exact Ar1.1) (State.isArrayOf_alike hZ.alike Ar1.2.1) (g := (mkF m 4 #[.val (.ref ar)] [(.ref ar), (.int (0 : Int32)), (.int (0 : Int32)), (.ref ar)])) rfl (rest := [(.int (0 : Int32)), (.int (0 : Int32)), (.ref ar)]) rfl (hb hby d7_4) _ ?_
    rw [len_of S1 M1]
    show Steps p.tables e below (s₁.setTop (mkF m 5 #[.val (.ref ar)] [(.int (1 : Int32)), (.int (0 : Int32)), (.int (0 : Int32)), (.ref ar)])) _
    refine st2 _ ?_
    show Steps p.tables e below (T2.setTop (mkF m 8 #[.val (.ref ar)] [])) _
    exact X2.returnOut hx Bd.returns (hb hby d7_8) hr
  · show Q_rmS1_1 Z ar ka x0 h0 n0 _ T2.heap _
    exact ⟨rfl, N2, ((Keep.refl h0 [ar]).trans Kp2 (allS (Or.inl (List.mem_of_getElem? (i := 0) rfl)) all0)), Fq2_0⟩
def Q_rmS2 (Z : State) (ar : Addr) (ka : ClassId) (x0 : Int64) (x1 : Int64) (h0 : Heap) (n0 : Nat) (v : Option Value) (h : Heap) (L : List Loc) : Prop := ∃ y0 : Int64, v = none ∧ Fr n0 L ∧ Keep h0 h [ar] ∧ Arv Z h ar ka .long (2 : Int32) [(.long y0), (.long (own_mx x0 x1))] (.long (0 : Int64))
theorem ef_rmS2 (m : MethodId) (ar : Addr) : entryFrame m #[(.ref ar), (.int (0 : Int32)), (.int (2 : Int32))] 7 = mkF m 0 #[.val (.ref ar), .val (.int (0 : Int32)), .val (.int (2 : Int32)), .unset, .unset, .unset, .unset] [] := by first | (simp [entryFrame, mkF, argsToLocals, Value.category]; done) | rfl
set_option maxRecDepth 65536 in
set_option maxHeartbeats 40000000 in
theorem rmS2 (l : Launch) (Z : State) (a0 : Array Value) (hw : ∀ d ∈ tables_1, d.before a0 Z = true) (ws : List Jvm.Cond) (ar : Addr) (ka : ClassId) (x0 : Int64) (x1 : Int64) (h0 : Heap) (n0 : Nat) (Z0 : n0 ≤ h0.size) (V_ar : Arv Z h0 ar ka .long (2 : Int32) [(.long x0), (.long x1)] (.long (0 : Int64))) (g_ar : n0 ≤ ar) :
    MetFree l (⟨"java/util/DualPivotQuicksort", "insertionSort", "([JII)V"⟩ : MethodName) (head1 (Jvm.Cond.code (⟨"java/util/DualPivotQuicksort", "insertionSort", "([JII)V"⟩ : MethodName) jdk_2529_method_15_code 7 none :: ws) ({ frames := 0, cells := 0, slots := 0, locals := 0 } : Room)) (fun a U => a = #[(.ref ar), (.int (0 : Int32)), (.int (2 : Int32))] ∧ Z.Warmed39 U.vm ∧ U.heap = h0) (fun _ _ _ _ _ => True) (fun _ U o U' => ∃ v L, o = .returned v ∧ Q_rmS2 Z ar ka x0 x1 h0 n0 v U'.heap L ∧ FrameEnd U o U' L ({ frames := 0, cells := 0, slots := 0, locals := 0 } : Room).cells ({ frames := 0, cells := 0, slots := 0, locals := 0 } : Room).slots) := by
  refine MetFree.of_bodySF (plainFor_of_name pn_1) hisR ?_
  intro p e s m args below meth c s₁ Bd hml0 hP hK
  obtain ⟨rfl, hZ, hh⟩ := hP
  have hx := Bd.exec
  have hby := Bd.bytes
  have hml : c.maxLocals = 7 := hml0
  have hown : s.vm.findClass "java/util/DualPivotQuicksort" = some m.cls := findClass_of_methodNamed Bd.named
  have hnm := (name_of_methodNamed Bd.named Bd.method).1
  have X0 : Stand p l e ({ frames := 0, cells := 0, slots := 0, locals := 0 } : Room) s m #[(.ref ar), (.int (0 : Int32)), (.int (2 : Int32))] below meth c s₁ [] 0 0 := Stand.of_body Bd
  have e0 : s₁.heap = h0 := by rw [← hh, Bd.state]; rfl
  have N0 := Fr.nil n0
  have pre0 : ∀ t, Steps p.tables e below (s₁.setTop (mkF m 0 #[.val (.ref ar), .val (.int (0 : Int32)), .val (.int (2 : Int32)), .unset, .unset, .unset, .unset] [])) t → Steps p.tables e below (s₁.setTop (entryFrame m #[(.ref ar), (.int (0 : Int32)), (.int (2 : Int32))] 7)) t := fun t k => castTop (ef_rmS2 m ar) k
  obtain ⟨jj_1, y0_1, T1, h1, lo1, X1, e1, N1, Kp1, Fq1_0, st1⟩ := turn2_1 ka x0 x1 ar X0 hx hZ hw hby hml hown e0 N0 Z0  V_ar g_ar
  obtain ⟨fs, hr, hrun, hended, hW, hsame⟩ := X1.leave (v := none) (fun _ => rfl)
  refine ⟨_, _, pre0 _ ?_, hrun, hended, _, _, rfl, ?_, ⟨_, rfl⟩, hW, hsame.mono (by decide) (by decide)⟩
  · show Steps p.tables e below (s₁.setTop (mkF m 0 #[.val (.ref ar), .val (.int (0 : Int32)), .val (.int (2 : Int32)), .unset, .unset, .unset, .unset] [])) _
    refine XS.iloadN X0.here hx rfl (hb hby d4_0) rfl ?_
    show Steps p.tables e below (s₁.setTop (mkF m 1 #[.val (.ref ar), .val (.int (0 : Int32)), .val (.int (2 : Int32)), .unset, .unset, .unset, .unset] [(.int (0 : Int32))])) _
    refine XS.istore X0.here hx rfl (hb hby d4_1) rfl (l' := #[.val (.ref ar), .val (.int (0 : Int32)), .val (.int (2 : Int32)), .unset, .val (.int (0 : Int32)), .unset, .unset]) rfl ?_
    show Steps p.tables e below (s₁.setTop (mkF m 3 #[.val (.ref ar), .val (.int (0 : Int32)), .val (.int (2 : Int32)), .unset, .val (.int (0 : Int32)), .unset, .unset] [])) _
    refine st1 _ ?_
    show Steps p.tables e below (T1.setTop (mkF m 3 #[.val (.ref ar), .val (.int (0 : Int32)), .val (.int (2 : Int32)), .val (.int jj_1), .val (.int (1 : Int32)), .val (.long x1), .second] [])) _
    refine XS.iinc X1.here hx rfl (hb hby d4_3) rfl (l' := #[.val (.ref ar), .val (.int (0 : Int32)), .val (.int (2 : Int32)), .val (.int jj_1), .val (.int ((1 : Int32) + (1 : Int32))), .val (.long x1), .second]) rfl ?_
    show Steps p.tables e below (T1.setTop (mkF m 6 #[.val (.ref ar), .val (.int (0 : Int32)), .val (.int (2 : Int32)), .val (.int jj_1), .val (.int ((1 : Int32) + (1 : Int32))), .val (.long x1), .second] [])) _
    rw [show ((1 : Int32) + (1 : Int32)) = (2 : Int32) from by decide]
    show Steps p.tables e below (T1.setTop (mkF m 6 #[.val (.ref ar), .val (.int (0 : Int32)), .val (.int (2 : Int32)), .val (.int jj_1), .val (.int (2 : Int32)), .val (.long x1), .second] [])) _
    refine XS.iload X1.here hx rfl (hb hby d4_6) rfl ?_
    show Steps p.tables e below (T1.setTop (mkF m 8 #[.val (.ref ar), .val (.int (0 : Int32)), .val (.int (2 : Int32)), .val (.int jj_1), .val (.int (2 : Int32)), .val (.long x1), .second] [(.int (2 : Int32))])) _
    refine XS.iloadN X1.here hx rfl (hb hby d4_8) rfl ?_
    show Steps p.tables e below (T1.setTop (mkF m 9 #[.val (.ref ar), .val (.int (0 : Int32)), .val (.int (2 : Int32)), .val (.int jj_1), .val (.int (2 : Int32)), .val (.long x1), .second] [(.int (2 : Int32)), (.int (2 : Int32))])) _
    refine XS.icmpYes X1.here hx rfl (pc0 := 9) (pc' := 69) rfl (hb hby d4_9) rfl (flt (by decide : ¬ ((2 : Int32) < (2 : Int32)))).2.1 (by decide) (by decide) ?_
    show Steps p.tables e below (T1.setTop (mkF m 69 #[.val (.ref ar), .val (.int (0 : Int32)), .val (.int (2 : Int32)), .val (.int jj_1), .val (.int (2 : Int32)), .val (.long x1), .second] [])) _
    exact X1.returnOut hx Bd.returns (hb hby d4_69) hr
  · show Q_rmS2 Z ar ka x0 x1 h0 n0 _ T1.heap _
    rw [e1]
    exact ⟨y0_1, rfl, N1, ((Keep.refl h0 [ar]).trans Kp1 (allS (Or.inl (List.mem_of_getElem? (i := 0) rfl)) all0)), Fq1_0⟩
def Q_rmS5_2 (Z : State) (ar : Addr) (ka : ClassId) (x0 : Int64) (x1 : Int64) (h0 : Heap) (n0 : Nat) (v : Option Value) (h : Heap) (L : List Loc) : Prop := ∃ y0 : Int64, v = none ∧ Fr n0 L ∧ Keep h0 h [ar] ∧ Arv Z h ar ka .long (2 : Int32) [(.long y0), (.long (own_mx x0 x1))] (.long (0 : Int64))
theorem ef_rmS5_2 (m : MethodId) (ar : Addr) : entryFrame m #[.null, (.ref ar), (.int (0 : Int32)), (.int (0 : Int32)), (.int (2 : Int32))] 25 = mkF m 0 #[.val .null, .val (.ref ar), .val (.int (0 : Int32)), .val (.int (0 : Int32)), .val (.int (2 : Int32)), .unset, .unset, .unset, .unset, .unset, .unset, .unset, .unset, .unset, .unset, .unset, .unset, .unset, .unset, .unset, .unset, .unset, .unset, .unset, .unset] [] := by first | (simp [entryFrame, mkF, argsToLocals, Value.category]; done) | rfl
set_option maxRecDepth 65536 in
set_option maxHeartbeats 40000000 in
theorem rmS5_2 (l : Launch) (Z : State) (a0 : Array Value) (hw : ∀ d ∈ tables_1, d.before a0 Z = true) (ws : List Jvm.Cond) (ar : Addr) (ka : ClassId) (x0 : Int64) (x1 : Int64) (h0 : Heap) (n0 : Nat) (Z0 : n0 ≤ h0.size) (V_ar : Arv Z h0 ar ka .long (2 : Int32) [(.long x0), (.long x1)] (.long (0 : Int64))) (g_ar : n0 ≤ ar) :
    MetFree l (⟨"java/util/DualPivotQuicksort", "sort", "(Ljava/util/DualPivotQuicksort$Sorter;[JIII)V"⟩ : MethodName) (head1 (Jvm.Cond.code (⟨"java/util/DualPivotQuicksort", "sort", "(Ljava/util/DualPivotQuicksort$Sorter;[JIII)V"⟩ : MethodName) jdk_2529_method_13_code 25 none :: ws) ({ frames := 1, cells := 0, slots := 0, locals := 18 } : Room)) (fun a U => a = #[.null, (.ref ar), (.int (0 : Int32)), (.int (0 : Int32)), (.int (2 : Int32))] ∧ Z.Warmed39 U.vm ∧ U.heap = h0) (fun _ _ _ _ _ => True) (fun _ U o U' => ∃ v L, o = .returned v ∧ Q_rmS5_2 Z ar ka x0 x1 h0 n0 v U'.heap L ∧ FrameEnd U o U' L ({ frames := 1, cells := 0, slots := 0, locals := 18 } : Room).cells ({ frames := 1, cells := 0, slots := 0, locals := 18 } : Room).slots) := by
  refine MetFree.of_bodySF (plainFor_of_name pn_1) hisR ?_
  intro p e s m args below meth c s₁ Bd hml0 hP hK
  obtain ⟨rfl, hZ, hh⟩ := hP
  have hx := Bd.exec
  have hby := Bd.bytes
  have hml : c.maxLocals = 25 := hml0
  have hown : s.vm.findClass "java/util/DualPivotQuicksort" = some m.cls := findClass_of_methodNamed Bd.named
  have hnm := (name_of_methodNamed Bd.named Bd.method).1
  have X0 : Stand p l e ({ frames := 1, cells := 0, slots := 0, locals := 18 } : Room) s m #[.null, (.ref ar), (.int (0 : Int32)), (.int (0 : Int32)), (.int (2 : Int32))] below meth c s₁ [] 0 0 := Stand.of_body Bd
  have e0 : s₁.heap = h0 := by rw [← hh, Bd.state]; rfl
  have N0 := Fr.nil n0
  have pre0 : ∀ t, Steps p.tables e below (s₁.setTop (mkF m 0 #[.val .null, .val (.ref ar), .val (.int (0 : Int32)), .val (.int (0 : Int32)), .val (.int (2 : Int32)), .unset, .unset, .unset, .unset, .unset, .unset, .unset, .unset, .unset, .unset, .unset, .unset, .unset, .unset, .unset, .unset, .unset, .unset, .unset, .unset] [])) t → Steps p.tables e below (s₁.setTop (entryFrame m #[.null, (.ref ar), (.int (0 : Int32)), (.int (0 : Int32)), (.int (2 : Int32))] 25)) t := fun t k => castTop (ef_rmS5_2 m ar) k
  obtain ⟨_, _, ⟨T1, L1, k1, n1⟩, -, X1, ⟨Lc1, hQ1, l1, y1, z1⟩, st1⟩ := Jvm.LawKit.callS X0 hx (y := (⟨"java/util/DualPivotQuicksort", "insertionSort", "([JII)V"⟩ : MethodName)) hown (mvT hZ (hw _ (List.mem_of_getElem? (i := 54) rfl))) (mvT hZ (hw _ (List.mem_of_getElem? (i := 55) rfl))) (mvT hZ (hw _ (List.mem_of_getElem? (i := 49) rfl))) (mvT hZ (hw _ (List.mem_of_getElem? (i := 56) rfl))) (by decide) (backOf (W := 0) (rmS2 l Z a0 hw [] ar ka x0 x1 h0 n0 Z0 V_ar g_ar) hZ (hw _ (List.mem_of_getElem? (i := 56) rfl)) (hw _ (List.mem_of_getElem? (i := 49) rfl)) (by decide) (by decide)) (g := (mkF m 57 #[.val .null, .val (.ref ar), .val (.int (0 : Int32)), .val (.int (0 : Int32)), .val (.int (2 : Int32)), .val (.int (1 : Int32)), .val (.int (2 : Int32)), .unset, .unset, .unset, .unset, .unset, .unset, .unset, .unset, .unset, .unset, .unset, .unset, .unset, .unset, .unset, .unset, .unset, .unset] [(.int (2 : Int32)), (.int (0 : Int32)), (.ref ar)])) rfl (by rw [hml]; rfl) (argsL := [(.ref ar), (.int (0 : Int32)), (.int (2 : Int32))]) (rest := []) (lenOf pd_1 rfl) rfl (by show 2 * 0 + _ ≤ _; exact Nat.le_of_eq rfl) (hb hby d5_57) (fun _ _ => ⟨rfl, e0, (by decide : 0 + 0 ≤ _), (by decide : 0 + 0 ≤ _)⟩)
  dsimp only [Pt.U, Pt.locs, Pt.cells, Pt.slots] at X1 l1 y1 z1 st1 hQ1
  subst l1 y1 z1
  obtain ⟨y0_1, rfl, Nq1, Kp1, Fq1_0⟩ := hQ1
  have N1 := Fr.app N0 Nq1
  obtain ⟨fs, hr, hrun, hended, hW, hsame⟩ := X1.leave (v := none) (fun _ => rfl)
  refine ⟨_, _, pre0 _ ?_, hrun, hended, _, _, rfl, ?_, ⟨_, rfl⟩, hW, hsame.mono (by decide) (by decide)⟩
  · show Steps p.tables e below (s₁.setTop (mkF m 0 #[.val .null, .val (.ref ar), .val (.int (0 : Int32)), .val (.int (0 : Int32)), .val (.int (2 : Int32)), .unset, .unset, .unset, .unset, .unset, .unset, .unset, .unset, .unset, .unset, .unset, .unset, .unset, .unset, .unset, .unset, .unset, .unset, .unset, .unset] [])) _
    refine XS.iload X0.here hx rfl (hb hby d5_0) rfl ?_
    show Steps p.tables e below (s₁.setTop (mkF m 2 #[.val .null, .val (.ref ar), .val (.int (0 : Int32)), .val (.int (0 : Int32)), .val (.int (2 : Int32)), .unset, .unset, .unset, .unset, .unset, .unset, .unset, .unset, .unset, .unset, .unset, .unset, .unset, .unset, .unset, .unset, .unset, .unset, .unset, .unset] [(.int (2 : Int32))])) _
    refine XS.iconst X0.here hx rfl (hb hby d5_2) ?_
    show Steps p.tables e below (s₁.setTop (mkF m 3 #[.val .null, .val (.ref ar), .val (.int (0 : Int32)), .val (.int (0 : Int32)), .val (.int (2 : Int32)), .unset, .unset, .unset, .unset, .unset, .unset, .unset, .unset, .unset, .unset, .unset, .unset, .unset, .unset, .unset, .unset, .unset, .unset, .unset, .unset] [(.int (1 : Int32)), (.int (2 : Int32))])) _
    refine XS.isub X0.here hx rfl (hb hby d5_3) rfl ?_
    show Steps p.tables e below (s₁.setTop (mkF m 4 #[.val .null, .val (.ref ar), .val (.int (0 : Int32)), .val (.int (0 : Int32)), .val (.int (2 : Int32)), .unset, .unset, .unset, .unset, .unset, .unset, .unset, .unset, .unset, .unset, .unset, .unset, .unset, .unset, .unset, .unset, .unset, .unset, .unset, .unset] [(.int ((2 : Int32) - (1 : Int32)))])) _
    rw [show ((2 : Int32) - (1 : Int32)) = (1 : Int32) from by decide]
    show Steps p.tables e below (s₁.setTop (mkF m 4 #[.val .null, .val (.ref ar), .val (.int (0 : Int32)), .val (.int (0 : Int32)), .val (.int (2 : Int32)), .unset, .unset, .unset, .unset, .unset, .unset, .unset, .unset, .unset, .unset, .unset, .unset, .unset, .unset, .unset, .unset, .unset, .unset, .unset, .unset] [(.int (1 : Int32))])) _
    refine XS.istore X0.here hx rfl (hb hby d5_4) rfl (l' := #[.val .null, .val (.ref ar), .val (.int (0 : Int32)), .val (.int (0 : Int32)), .val (.int (2 : Int32)), .val (.int (1 : Int32)), .unset, .unset, .unset, .unset, .unset, .unset, .unset, .unset, .unset, .unset, .unset, .unset, .unset, .unset, .unset, .unset, .unset, .unset, .unset]) rfl ?_
    show Steps p.tables e below (s₁.setTop (mkF m 6 #[.val .null, .val (.ref ar), .val (.int (0 : Int32)), .val (.int (0 : Int32)), .val (.int (2 : Int32)), .val (.int (1 : Int32)), .unset, .unset, .unset, .unset, .unset, .unset, .unset, .unset, .unset, .unset, .unset, .unset, .unset, .unset, .unset, .unset, .unset, .unset, .unset] [])) _
    refine XS.iload X0.here hx rfl (hb hby d5_6) rfl ?_
    show Steps p.tables e below (s₁.setTop (mkF m 8 #[.val .null, .val (.ref ar), .val (.int (0 : Int32)), .val (.int (0 : Int32)), .val (.int (2 : Int32)), .val (.int (1 : Int32)), .unset, .unset, .unset, .unset, .unset, .unset, .unset, .unset, .unset, .unset, .unset, .unset, .unset, .unset, .unset, .unset, .unset, .unset, .unset] [(.int (2 : Int32))])) _
    refine XS.iloadN X0.here hx rfl (hb hby d5_8) rfl ?_
    show Steps p.tables e below (s₁.setTop (mkF m 9 #[.val .null, .val (.ref ar), .val (.int (0 : Int32)), .val (.int (0 : Int32)), .val (.int (2 : Int32)), .val (.int (1 : Int32)), .unset, .unset, .unset, .unset, .unset, .unset, .unset, .unset, .unset, .unset, .unset, .unset, .unset, .unset, .unset, .unset, .unset, .unset, .unset] [(.int (0 : Int32)), (.int (2 : Int32))])) _
    refine XS.isub X0.here hx rfl (hb hby d5_9) rfl ?_
    show Steps p.tables e below (s₁.setTop (mkF m 10 #[.val .null, .val (.ref ar), .val (.int (0 : Int32)), .val (.int (0 : Int32)), .val (.int (2 : Int32)), .val (.int (1 : Int32)), .unset, .unset, .unset, .unset, .unset, .unset, .unset, .unset, .unset, .unset, .unset, .unset, .unset, .unset, .unset, .unset, .unset, .unset, .unset] [(.int ((2 : Int32) - (0 : Int32)))])) _
    rw [show ((2 : Int32) - (0 : Int32)) = (2 : Int32) from by decide]
    show Steps p.tables e below (s₁.setTop (mkF m 10 #[.val .null, .val (.ref ar), .val (.int (0 : Int32)), .val (.int (0 : Int32)), .val (.int (2 : Int32)), .val (.int (1 : Int32)), .unset, .unset, .unset, .unset, .unset, .unset, .unset, .unset, .unset, .unset, .unset, .unset, .unset, .unset, .unset, .unset, .unset, .unset, .unset] [(.int (2 : Int32))])) _
    refine XS.istore X0.here hx rfl (hb hby d5_10) rfl (l' := #[.val .null, .val (.ref ar), .val (.int (0 : Int32)), .val (.int (0 : Int32)), .val (.int (2 : Int32)), .val (.int (1 : Int32)), .val (.int (2 : Int32)), .unset, .unset, .unset, .unset, .unset, .unset, .unset, .unset, .unset, .unset, .unset, .unset, .unset, .unset, .unset, .unset, .unset, .unset]) rfl ?_
    show Steps p.tables e below (s₁.setTop (mkF m 12 #[.val .null, .val (.ref ar), .val (.int (0 : Int32)), .val (.int (0 : Int32)), .val (.int (2 : Int32)), .val (.int (1 : Int32)), .val (.int (2 : Int32)), .unset, .unset, .unset, .unset, .unset, .unset, .unset, .unset, .unset, .unset, .unset, .unset, .unset, .unset, .unset, .unset, .unset, .unset] [])) _
    refine XS.iload X0.here hx rfl (hb hby d5_12) rfl ?_
    show Steps p.tables e below (s₁.setTop (mkF m 14 #[.val .null, .val (.ref ar), .val (.int (0 : Int32)), .val (.int (0 : Int32)), .val (.int (2 : Int32)), .val (.int (1 : Int32)), .val (.int (2 : Int32)), .unset, .unset, .unset, .unset, .unset, .unset, .unset, .unset, .unset, .unset, .unset, .unset, .unset, .unset, .unset, .unset, .unset, .unset] [(.int (2 : Int32))])) _
    refine XS.bipush X0.here hx rfl (hb hby d5_14) ?_
    show Steps p.tables e below (s₁.setTop (mkF m 16 #[.val .null, .val (.ref ar), .val (.int (0 : Int32)), .val (.int (0 : Int32)), .val (.int (2 : Int32)), .val (.int (1 : Int32)), .val (.int (2 : Int32)), .unset, .unset, .unset, .unset, .unset, .unset, .unset, .unset, .unset, .unset, .unset, .unset, .unset, .unset, .unset, .unset, .unset, .unset] [(.int (65 : Int32)), (.int (2 : Int32))])) _
    refine XS.iloadN X0.here hx rfl (hb hby d5_16) rfl ?_
    show Steps p.tables e below (s₁.setTop (mkF m 17 #[.val .null, .val (.ref ar), .val (.int (0 : Int32)), .val (.int (0 : Int32)), .val (.int (2 : Int32)), .val (.int (1 : Int32)), .val (.int (2 : Int32)), .unset, .unset, .unset, .unset, .unset, .unset, .unset, .unset, .unset, .unset, .unset, .unset, .unset, .unset, .unset, .unset, .unset, .unset] [(.int (0 : Int32)), (.int (65 : Int32)), (.int (2 : Int32))])) _
    refine XS.iadd X0.here hx rfl (hb hby d5_17) rfl ?_
    show Steps p.tables e below (s₁.setTop (mkF m 18 #[.val .null, .val (.ref ar), .val (.int (0 : Int32)), .val (.int (0 : Int32)), .val (.int (2 : Int32)), .val (.int (1 : Int32)), .val (.int (2 : Int32)), .unset, .unset, .unset, .unset, .unset, .unset, .unset, .unset, .unset, .unset, .unset, .unset, .unset, .unset, .unset, .unset, .unset, .unset] [(.int ((65 : Int32) + (0 : Int32))), (.int (2 : Int32))])) _
    rw [show ((65 : Int32) + (0 : Int32)) = (65 : Int32) from by decide]
    show Steps p.tables e below (s₁.setTop (mkF m 18 #[.val .null, .val (.ref ar), .val (.int (0 : Int32)), .val (.int (0 : Int32)), .val (.int (2 : Int32)), .val (.int (1 : Int32)), .val (.int (2 : Int32)), .unset, .unset, .unset, .unset, .unset, .unset, .unset, .unset, .unset, .unset, .unset, .unset, .unset, .unset, .unset, .unset, .unset, .unset] [(.int (65 : Int32)), (.int (2 : Int32))])) _
    refine XS.icmpNo X0.here hx rfl (hb hby d5_18) rfl (tlt (by decide : (2 : Int32) < (65 : Int32))).2.1 ?_
    show Steps p.tables e below (s₁.setTop (mkF m 21 #[.val .null, .val (.ref ar), .val (.int (0 : Int32)), .val (.int (0 : Int32)), .val (.int (2 : Int32)), .val (.int (1 : Int32)), .val (.int (2 : Int32)), .unset, .unset, .unset, .unset, .unset, .unset, .unset, .unset, .unset, .unset, .unset, .unset, .unset, .unset, .unset, .unset, .unset, .unset] [])) _
    refine XS.iloadN X0.here hx rfl (hb hby d5_21) rfl ?_
    show Steps p.tables e below (s₁.setTop (mkF m 22 #[.val .null, .val (.ref ar), .val (.int (0 : Int32)), .val (.int (0 : Int32)), .val (.int (2 : Int32)), .val (.int (1 : Int32)), .val (.int (2 : Int32)), .unset, .unset, .unset, .unset, .unset, .unset, .unset, .unset, .unset, .unset, .unset, .unset, .unset, .unset, .unset, .unset, .unset, .unset] [(.int (0 : Int32))])) _
    refine XS.iconst X0.here hx rfl (hb hby d5_22) ?_
    show Steps p.tables e below (s₁.setTop (mkF m 23 #[.val .null, .val (.ref ar), .val (.int (0 : Int32)), .val (.int (0 : Int32)), .val (.int (2 : Int32)), .val (.int (1 : Int32)), .val (.int (2 : Int32)), .unset, .unset, .unset, .unset, .unset, .unset, .unset, .unset, .unset, .unset, .unset, .unset, .unset, .unset, .unset, .unset, .unset, .unset] [(.int (1 : Int32)), (.int (0 : Int32))])) _
    refine XS.iand X0.here hx rfl (hb hby d5_23) rfl ?_
    show Steps p.tables e below (s₁.setTop (mkF m 24 #[.val .null, .val (.ref ar), .val (.int (0 : Int32)), .val (.int (0 : Int32)), .val (.int (2 : Int32)), .val (.int (1 : Int32)), .val (.int (2 : Int32)), .unset, .unset, .unset, .unset, .unset, .unset, .unset, .unset, .unset, .unset, .unset, .unset, .unset, .unset, .unset, .unset, .unset, .unset] [(.int ((0 : Int32) &&& (1 : Int32)))])) _
    rw [show ((0 : Int32) &&& (1 : Int32)) = (0 : Int32) from by decide]
    show Steps p.tables e below (s₁.setTop (mkF m 24 #[.val .null, .val (.ref ar), .val (.int (0 : Int32)), .val (.int (0 : Int32)), .val (.int (2 : Int32)), .val (.int (1 : Int32)), .val (.int (2 : Int32)), .unset, .unset, .unset, .unset, .unset, .unset, .unset, .unset, .unset, .unset, .unset, .unset, .unset, .unset, .unset, .unset, .unset, .unset] [(.int (0 : Int32))])) _
    refine XS.ifYes X0.here hx rfl (pc0 := 24) (pc' := 46) rfl (hb hby d5_24) rfl ((if0 _ _).trans (flt (by decide : ¬ ((0 : Int32) < (0 : Int32)))).2.2.2) (by decide) (by decide) ?_
    show Steps p.tables e below (s₁.setTop (mkF m 46 #[.val .null, .val (.ref ar), .val (.int (0 : Int32)), .val (.int (0 : Int32)), .val (.int (2 : Int32)), .val (.int (1 : Int32)), .val (.int (2 : Int32)), .unset, .unset, .unset, .unset, .unset, .unset, .unset, .unset, .unset, .unset, .unset, .unset, .unset, .unset, .unset, .unset, .unset, .unset] [])) _
    refine XS.iload X0.here hx rfl (hb hby d5_46) rfl ?_
    show Steps p.tables e below (s₁.setTop (mkF m 48 #[.val .null, .val (.ref ar), .val (.int (0 : Int32)), .val (.int (0 : Int32)), .val (.int (2 : Int32)), .val (.int (1 : Int32)), .val (.int (2 : Int32)), .unset, .unset, .unset, .unset, .unset, .unset, .unset, .unset, .unset, .unset, .unset, .unset, .unset, .unset, .unset, .unset, .unset, .unset] [(.int (2 : Int32))])) _
    refine XS.bipush X0.here hx rfl (hb hby d5_48) ?_
    show Steps p.tables e below (s₁.setTop (mkF m 50 #[.val .null, .val (.ref ar), .val (.int (0 : Int32)), .val (.int (0 : Int32)), .val (.int (2 : Int32)), .val (.int (1 : Int32)), .val (.int (2 : Int32)), .unset, .unset, .unset, .unset, .unset, .unset, .unset, .unset, .unset, .unset, .unset, .unset, .unset, .unset, .unset, .unset, .unset, .unset] [(.int (44 : Int32)), (.int (2 : Int32))])) _
    refine XS.icmpNo X0.here hx rfl (hb hby d5_50) rfl (tlt (by decide : (2 : Int32) < (44 : Int32))).2.1 ?_
    show Steps p.tables e below (s₁.setTop (mkF m 53 #[.val .null, .val (.ref ar), .val (.int (0 : Int32)), .val (.int (0 : Int32)), .val (.int (2 : Int32)), .val (.int (1 : Int32)), .val (.int (2 : Int32)), .unset, .unset, .unset, .unset, .unset, .unset, .unset, .unset, .unset, .unset, .unset, .unset, .unset, .unset, .unset, .unset, .unset, .unset] [])) _
    refine XS.aloadN X0.here hx rfl (hb hby d5_53) rfl rfl ?_
    show Steps p.tables e below (s₁.setTop (mkF m 54 #[.val .null, .val (.ref ar), .val (.int (0 : Int32)), .val (.int (0 : Int32)), .val (.int (2 : Int32)), .val (.int (1 : Int32)), .val (.int (2 : Int32)), .unset, .unset, .unset, .unset, .unset, .unset, .unset, .unset, .unset, .unset, .unset, .unset, .unset, .unset, .unset, .unset, .unset, .unset] [(.ref ar)])) _
    refine XS.iloadN X0.here hx rfl (hb hby d5_54) rfl ?_
    show Steps p.tables e below (s₁.setTop (mkF m 55 #[.val .null, .val (.ref ar), .val (.int (0 : Int32)), .val (.int (0 : Int32)), .val (.int (2 : Int32)), .val (.int (1 : Int32)), .val (.int (2 : Int32)), .unset, .unset, .unset, .unset, .unset, .unset, .unset, .unset, .unset, .unset, .unset, .unset, .unset, .unset, .unset, .unset, .unset, .unset] [(.int (0 : Int32)), (.ref ar)])) _
    refine XS.iload X0.here hx rfl (hb hby d5_55) rfl ?_
    show Steps p.tables e below (s₁.setTop (mkF m 57 #[.val .null, .val (.ref ar), .val (.int (0 : Int32)), .val (.int (0 : Int32)), .val (.int (2 : Int32)), .val (.int (1 : Int32)), .val (.int (2 : Int32)), .unset, .unset, .unset, .unset, .unset, .unset, .unset, .unset, .unset, .unset, .unset, .unset, .unset, .unset, .unset, .unset, .unset, .unset] [(.int (2 : Int32)), (.int (0 : Int32)), (.ref ar)])) _
    refine st1 _ ?_
    show Steps p.tables e below (T1.setTop (mkF m 60 #[.val .null, .val (.ref ar), .val (.int (0 : Int32)), .val (.int (0 : Int32)), .val (.int (2 : Int32)), .val (.int (1 : Int32)), .val (.int (2 : Int32)), .unset, .unset, .unset, .unset, .unset, .unset, .unset, .unset, .unset, .unset, .unset, .unset, .unset, .unset, .unset, .unset, .unset, .unset] [])) _
    exact X1.returnOut hx Bd.returns (hb hby d5_60) hr
  · show Q_rmS5_2 Z ar ka x0 x1 h0 n0 _ T1.heap _
    exact ⟨y0_1, rfl, N1, ((Keep.refl h0 [ar]).trans Kp1 (allS (Or.inl (List.mem_of_getElem? (i := 0) rfl)) all0)), Fq1_0⟩
def Q_rmS4_2 (Z : State) (ar : Addr) (ka : ClassId) (x0 : Int64) (x1 : Int64) (h0 : Heap) (n0 : Nat) (v : Option Value) (h : Heap) (L : List Loc) : Prop := ∃ y0 : Int64, v = none ∧ Fr n0 L ∧ Keep h0 h [ar] ∧ Arv Z h ar ka .long (2 : Int32) [(.long y0), (.long (own_mx x0 x1))] (.long (0 : Int64))
theorem ef_rmS4_2 (m : MethodId) (ar : Addr) : entryFrame m #[(.ref ar), (.int (0 : Int32)), (.int (0 : Int32)), (.int (2 : Int32))] 7 = mkF m 0 #[.val (.ref ar), .val (.int (0 : Int32)), .val (.int (0 : Int32)), .val (.int (2 : Int32)), .unset, .unset, .unset] [] := by first | (simp [entryFrame, mkF, argsToLocals, Value.category]; done) | rfl
set_option maxRecDepth 65536 in
set_option maxHeartbeats 40000000 in
theorem rmS4_2 (l : Launch) (Z : State) (a0 : Array Value) (hw : ∀ d ∈ tables_1, d.before a0 Z = true) (ws : List Jvm.Cond) (ar : Addr) (ka : ClassId) (x0 : Int64) (x1 : Int64) (h0 : Heap) (n0 : Nat) (Z0 : n0 ≤ h0.size) (V_ar : Arv Z h0 ar ka .long (2 : Int32) [(.long x0), (.long x1)] (.long (0 : Int64))) (g_ar : n0 ≤ ar) :
    MetFree l (⟨"java/util/DualPivotQuicksort", "sort", "([JIII)V"⟩ : MethodName) (head1 (Jvm.Cond.code (⟨"java/util/DualPivotQuicksort", "sort", "([JIII)V"⟩ : MethodName) jdk_2529_method_12_code 7 none :: ws) ({ frames := 2, cells := 0, slots := 0, locals := 54 } : Room)) (fun a U => a = #[(.ref ar), (.int (0 : Int32)), (.int (0 : Int32)), (.int (2 : Int32))] ∧ Z.Warmed39 U.vm ∧ U.heap = h0) (fun _ _ _ _ _ => True) (fun _ U o U' => ∃ v L, o = .returned v ∧ Q_rmS4_2 Z ar ka x0 x1 h0 n0 v U'.heap L ∧ FrameEnd U o U' L ({ frames := 2, cells := 0, slots := 0, locals := 54 } : Room).cells ({ frames := 2, cells := 0, slots := 0, locals := 54 } : Room).slots) := by
  refine MetFree.of_bodySF (plainFor_of_name pn_1) hisR ?_
  intro p e s m args below meth c s₁ Bd hml0 hP hK
  obtain ⟨rfl, hZ, hh⟩ := hP
  have hx := Bd.exec
  have hby := Bd.bytes
  have hml : c.maxLocals = 7 := hml0
  have hown : s.vm.findClass "java/util/DualPivotQuicksort" = some m.cls := findClass_of_methodNamed Bd.named
  have hnm := (name_of_methodNamed Bd.named Bd.method).1
  have X0 : Stand p l e ({ frames := 2, cells := 0, slots := 0, locals := 54 } : Room) s m #[(.ref ar), (.int (0 : Int32)), (.int (0 : Int32)), (.int (2 : Int32))] below meth c s₁ [] 0 0 := Stand.of_body Bd
  have e0 : s₁.heap = h0 := by rw [← hh, Bd.state]; rfl
  have N0 := Fr.nil n0
  have pre0 : ∀ t, Steps p.tables e below (s₁.setTop (mkF m 0 #[.val (.ref ar), .val (.int (0 : Int32)), .val (.int (0 : Int32)), .val (.int (2 : Int32)), .unset, .unset, .unset] [])) t → Steps p.tables e below (s₁.setTop (entryFrame m #[(.ref ar), (.int (0 : Int32)), (.int (0 : Int32)), (.int (2 : Int32))] 7)) t := fun t k => castTop (ef_rmS4_2 m ar) k
  obtain ⟨_, _, ⟨T1, L1, k1, n1⟩, -, X1, ⟨Lc1, hQ1, l1, y1, z1⟩, st1⟩ := Jvm.LawKit.callS X0 hx (y := (⟨"java/util/DualPivotQuicksort", "sort", "(Ljava/util/DualPivotQuicksort$Sorter;[JIII)V"⟩ : MethodName)) hown (mvT hZ (hw _ (List.mem_of_getElem? (i := 51) rfl))) (mvT hZ (hw _ (List.mem_of_getElem? (i := 52) rfl))) (mvT hZ (hw _ (List.mem_of_getElem? (i := 49) rfl))) (mvT hZ (hw _ (List.mem_of_getElem? (i := 53) rfl))) (by decide) (backOf (W := 0) (rmS5_2 l Z a0 hw [] ar ka x0 x1 h0 n0 Z0 V_ar g_ar) hZ (hw _ (List.mem_of_getElem? (i := 53) rfl)) (hw _ (List.mem_of_getElem? (i := 49) rfl)) (by decide) (by decide)) (g := (mkF m 73 #[.val (.ref ar), .val (.int (0 : Int32)), .val (.int (0 : Int32)), .val (.int (2 : Int32)), .val (.int (2 : Int32)), .unset, .unset] [(.int (2 : Int32)), (.int (0 : Int32)), (.int (0 : Int32)), (.ref ar), .null])) rfl (by rw [hml]; rfl) (argsL := [.null, (.ref ar), (.int (0 : Int32)), (.int (0 : Int32)), (.int (2 : Int32))]) (rest := []) (lenOf pd_2 rfl) rfl (by show 2 * 0 + _ ≤ _; exact Nat.le_of_eq rfl) (hb hby d6_73) (fun _ _ => ⟨rfl, e0, (by decide : 0 + 0 ≤ _), (by decide : 0 + 0 ≤ _)⟩)
  dsimp only [Pt.U, Pt.locs, Pt.cells, Pt.slots] at X1 l1 y1 z1 st1 hQ1
  subst l1 y1 z1
  obtain ⟨y0_1, rfl, Nq1, Kp1, Fq1_0⟩ := hQ1
  have N1 := Fr.app N0 Nq1
  obtain ⟨fs, hr, hrun, hended, hW, hsame⟩ := X1.leave (v := none) (fun _ => rfl)
  refine ⟨_, _, pre0 _ ?_, hrun, hended, _, _, rfl, ?_, ⟨_, rfl⟩, hW, hsame.mono (by decide) (by decide)⟩
  · show Steps p.tables e below (s₁.setTop (mkF m 0 #[.val (.ref ar), .val (.int (0 : Int32)), .val (.int (0 : Int32)), .val (.int (2 : Int32)), .unset, .unset, .unset] [])) _
    refine XS.iloadN X0.here hx rfl (hb hby d6_0) rfl ?_
    show Steps p.tables e below (s₁.setTop (mkF m 1 #[.val (.ref ar), .val (.int (0 : Int32)), .val (.int (0 : Int32)), .val (.int (2 : Int32)), .unset, .unset, .unset] [(.int (2 : Int32))])) _
    refine XS.iloadN X0.here hx rfl (hb hby d6_1) rfl ?_
    show Steps p.tables e below (s₁.setTop (mkF m 2 #[.val (.ref ar), .val (.int (0 : Int32)), .val (.int (0 : Int32)), .val (.int (2 : Int32)), .unset, .unset, .unset] [(.int (0 : Int32)), (.int (2 : Int32))])) _
    refine XS.isub X0.here hx rfl (hb hby d6_2) rfl ?_
    show Steps p.tables e below (s₁.setTop (mkF m 3 #[.val (.ref ar), .val (.int (0 : Int32)), .val (.int (0 : Int32)), .val (.int (2 : Int32)), .unset, .unset, .unset] [(.int ((2 : Int32) - (0 : Int32)))])) _
    rw [show ((2 : Int32) - (0 : Int32)) = (2 : Int32) from by decide]
    show Steps p.tables e below (s₁.setTop (mkF m 3 #[.val (.ref ar), .val (.int (0 : Int32)), .val (.int (0 : Int32)), .val (.int (2 : Int32)), .unset, .unset, .unset] [(.int (2 : Int32))])) _
    refine XS.istore X0.here hx rfl (hb hby d6_3) rfl (l' := #[.val (.ref ar), .val (.int (0 : Int32)), .val (.int (0 : Int32)), .val (.int (2 : Int32)), .val (.int (2 : Int32)), .unset, .unset]) rfl ?_
    show Steps p.tables e below (s₁.setTop (mkF m 5 #[.val (.ref ar), .val (.int (0 : Int32)), .val (.int (0 : Int32)), .val (.int (2 : Int32)), .val (.int (2 : Int32)), .unset, .unset] [])) _
    refine XS.iloadN X0.here hx rfl (hb hby d6_5) rfl ?_
    show Steps p.tables e below (s₁.setTop (mkF m 6 #[.val (.ref ar), .val (.int (0 : Int32)), .val (.int (0 : Int32)), .val (.int (2 : Int32)), .val (.int (2 : Int32)), .unset, .unset] [(.int (0 : Int32))])) _
    refine XS.iconst X0.here hx rfl (hb hby d6_6) ?_
    show Steps p.tables e below (s₁.setTop (mkF m 7 #[.val (.ref ar), .val (.int (0 : Int32)), .val (.int (0 : Int32)), .val (.int (2 : Int32)), .val (.int (2 : Int32)), .unset, .unset] [(.int (1 : Int32)), (.int (0 : Int32))])) _
    refine XS.icmpYes X0.here hx rfl (pc0 := 7) (pc' := 68) rfl (hb hby d6_7) rfl (flt (by decide : ¬ ((1 : Int32) < (0 : Int32)))).2.2.2 (by decide) (by decide) ?_
    show Steps p.tables e below (s₁.setTop (mkF m 68 #[.val (.ref ar), .val (.int (0 : Int32)), .val (.int (0 : Int32)), .val (.int (2 : Int32)), .val (.int (2 : Int32)), .unset, .unset] [])) _
    refine XS.aconstNull X0.here hx rfl (hb hby d6_68) ?_
    show Steps p.tables e below (s₁.setTop (mkF m 69 #[.val (.ref ar), .val (.int (0 : Int32)), .val (.int (0 : Int32)), .val (.int (2 : Int32)), .val (.int (2 : Int32)), .unset, .unset] [.null])) _
    refine XS.aloadN X0.here hx rfl (hb hby d6_69) rfl rfl ?_
    show Steps p.tables e below (s₁.setTop (mkF m 70 #[.val (.ref ar), .val (.int (0 : Int32)), .val (.int (0 : Int32)), .val (.int (2 : Int32)), .val (.int (2 : Int32)), .unset, .unset] [(.ref ar), .null])) _
    refine XS.iconst X0.here hx rfl (hb hby d6_70) ?_
    show Steps p.tables e below (s₁.setTop (mkF m 71 #[.val (.ref ar), .val (.int (0 : Int32)), .val (.int (0 : Int32)), .val (.int (2 : Int32)), .val (.int (2 : Int32)), .unset, .unset] [(.int (0 : Int32)), (.ref ar), .null])) _
    refine XS.iloadN X0.here hx rfl (hb hby d6_71) rfl ?_
    show Steps p.tables e below (s₁.setTop (mkF m 72 #[.val (.ref ar), .val (.int (0 : Int32)), .val (.int (0 : Int32)), .val (.int (2 : Int32)), .val (.int (2 : Int32)), .unset, .unset] [(.int (0 : Int32)), (.int (0 : Int32)), (.ref ar), .null])) _
    refine XS.iloadN X0.here hx rfl (hb hby d6_72) rfl ?_
    show Steps p.tables e below (s₁.setTop (mkF m 73 #[.val (.ref ar), .val (.int (0 : Int32)), .val (.int (0 : Int32)), .val (.int (2 : Int32)), .val (.int (2 : Int32)), .unset, .unset] [(.int (2 : Int32)), (.int (0 : Int32)), (.int (0 : Int32)), (.ref ar), .null])) _
    refine st1 _ ?_
    show Steps p.tables e below (T1.setTop (mkF m 76 #[.val (.ref ar), .val (.int (0 : Int32)), .val (.int (0 : Int32)), .val (.int (2 : Int32)), .val (.int (2 : Int32)), .unset, .unset] [])) _
    exact X1.returnOut hx Bd.returns (hb hby d6_76) hr
  · show Q_rmS4_2 Z ar ka x0 x1 h0 n0 _ T1.heap _
    exact ⟨y0_1, rfl, N1, ((Keep.refl h0 [ar]).trans Kp1 (allS (Or.inl (List.mem_of_getElem? (i := 0) rfl)) all0)), Fq1_0⟩
def Q_rmS1_2 (Z : State) (ar : Addr) (ka : ClassId) (x0 : Int64) (x1 : Int64) (h0 : Heap) (n0 : Nat) (v : Option Value) (h : Heap) (L : List Loc) : Prop := ∃ y0 : Int64, v = none ∧ Fr n0 L ∧ Keep h0 h [ar] ∧ Arv Z h ar ka .long (2 : Int32) [(.long y0), (.long (own_mx x0 x1))] (.long (0 : Int64))
theorem ef_rmS1_2 (m : MethodId) (ar : Addr) : entryFrame m #[(.ref ar)] 1 = mkF m 0 #[.val (.ref ar)] [] := by first | (simp [entryFrame, mkF, argsToLocals, Value.category]; done) | rfl
set_option maxRecDepth 65536 in
set_option maxHeartbeats 40000000 in
theorem rmS1_2 (l : Launch) (Z : State) (a0 : Array Value) (hw : ∀ d ∈ tables_1, d.before a0 Z = true) (ws : List Jvm.Cond) (ar : Addr) (ka : ClassId) (x0 : Int64) (x1 : Int64) (h0 : Heap) (n0 : Nat) (Z0 : n0 ≤ h0.size) (V_ar : Arv Z h0 ar ka .long (2 : Int32) [(.long x0), (.long x1)] (.long (0 : Int64))) (g_ar : n0 ≤ ar) :
    MetFree l (⟨"java/util/Arrays", "sort", "([J)V"⟩ : MethodName) (head1 (Jvm.Cond.code (⟨"java/util/Arrays", "sort", "([J)V"⟩ : MethodName) jdk_65_method_4_code 1 none :: ws) ({ frames := 3, cells := 0, slots := 0, locals := 72 } : Room)) (fun a U => a = #[(.ref ar)] ∧ Z.Warmed39 U.vm ∧ U.heap = h0) (fun _ _ _ _ _ => True) (fun _ U o U' => ∃ v L, o = .returned v ∧ Q_rmS1_2 Z ar ka x0 x1 h0 n0 v U'.heap L ∧ FrameEnd U o U' L ({ frames := 3, cells := 0, slots := 0, locals := 72 } : Room).cells ({ frames := 3, cells := 0, slots := 0, locals := 72 } : Room).slots) := by
  refine MetFree.of_bodySF (plainFor_of_name pn_2) hisR ?_
  intro p e s m args below meth c s₁ Bd hml0 hP hK
  obtain ⟨rfl, hZ, hh⟩ := hP
  have hx := Bd.exec
  have hby := Bd.bytes
  have hml : c.maxLocals = 1 := hml0
  have hown : s.vm.findClass "java/util/Arrays" = some m.cls := findClass_of_methodNamed Bd.named
  have hnm := (name_of_methodNamed Bd.named Bd.method).1
  have X0 : Stand p l e ({ frames := 3, cells := 0, slots := 0, locals := 72 } : Room) s m #[(.ref ar)] below meth c s₁ [] 0 0 := Stand.of_body Bd
  have e0 : s₁.heap = h0 := by rw [← hh, Bd.state]; rfl
  have N0 := Fr.nil n0
  have pre0 : ∀ t, Steps p.tables e below (s₁.setTop (mkF m 0 #[.val (.ref ar)] [])) t → Steps p.tables e below (s₁.setTop (entryFrame m #[(.ref ar)] 1)) t := fun t k => castTop (ef_rmS1_2 m ar) k
  have Vc1 := V_ar
  obtain ⟨cl1, Ar1, -, S1, M1, -, -⟩ := Vc1
  obtain ⟨_, _, ⟨T2, L2, k2, n2⟩, -, X2, ⟨Lc2, hQ2, l2, y2, z2⟩, st2⟩ := Jvm.LawKit.callS X0 hx (y := (⟨"java/util/DualPivotQuicksort", "sort", "([JIII)V"⟩ : MethodName)) hown (mvT hZ (hw _ (List.mem_of_getElem? (i := 47) rfl))) (mvT hZ (hw _ (List.mem_of_getElem? (i := 48) rfl))) (mvT hZ (hw _ (List.mem_of_getElem? (i := 49) rfl))) (mvT hZ (hw _ (List.mem_of_getElem? (i := 50) rfl))) (by decide) (backOf (W := 0) (rmS4_2 l Z a0 hw [] ar ka x0 x1 h0 n0 Z0 V_ar g_ar) hZ (hw _ (List.mem_of_getElem? (i := 50) rfl)) (hw _ (List.mem_of_getElem? (i := 49) rfl)) (by decide) (by decide)) (g := (mkF m 5 #[.val (.ref ar)] [(.int (2 : Int32)), (.int (0 : Int32)), (.int (0 : Int32)), (.ref ar)])) rfl (by rw [hml]; rfl) (argsL := [(.ref ar), (.int (0 : Int32)), (.int (0 : Int32)), (.int (2 : Int32))]) (rest := []) (lenOf pd_3 rfl) rfl (by show 2 * 0 + _ ≤ _; exact Nat.le_of_eq rfl) (hb hby d7_5) (fun _ _ => ⟨rfl, e0, (by decide : 0 + 0 ≤ _), (by decide : 0 + 0 ≤ _)⟩)
  dsimp only [Pt.U, Pt.locs, Pt.cells, Pt.slots] at X2 l2 y2 z2 st2 hQ2
  subst l2 y2 z2
  obtain ⟨y0_2, rfl, Nq2, Kp2, Fq2_0⟩ := hQ2
  have N2 := Fr.app N0 Nq2
  obtain ⟨fs, hr, hrun, hended, hW, hsame⟩ := X2.leave (v := none) (fun _ => rfl)
  refine ⟨_, _, pre0 _ ?_, hrun, hended, _, _, rfl, ?_, ⟨_, rfl⟩, hW, hsame.mono (by decide) (by decide)⟩
  · show Steps p.tables e below (s₁.setTop (mkF m 0 #[.val (.ref ar)] [])) _
    refine XS.aloadN X0.here hx rfl (hb hby d7_0) rfl rfl ?_
    show Steps p.tables e below (s₁.setTop (mkF m 1 #[.val (.ref ar)] [(.ref ar)])) _
    refine XS.iconst X0.here hx rfl (hb hby d7_1) ?_
    show Steps p.tables e below (s₁.setTop (mkF m 2 #[.val (.ref ar)] [(.int (0 : Int32)), (.ref ar)])) _
    refine XS.iconst X0.here hx rfl (hb hby d7_2) ?_
    show Steps p.tables e below (s₁.setTop (mkF m 3 #[.val (.ref ar)] [(.int (0 : Int32)), (.int (0 : Int32)), (.ref ar)])) _
    refine XS.aloadN X0.here hx rfl (hb hby d7_3) rfl rfl ?_
    show Steps p.tables e below (s₁.setTop (mkF m 4 #[.val (.ref ar)] [(.ref ar), (.int (0 : Int32)), (.int (0 : Int32)), (.ref ar)])) _
    refine X0.arraylength hx (cell := cl1) (by rw [e0]; exact Ar1.1) (State.isArrayOf_alike hZ.alike Ar1.2.1) (g := (mkF m 4 #[.val (.ref ar)] [(.ref ar), (.int (0 : Int32)), (.int (0 : Int32)), (.ref ar)])) rfl (rest := [(.int (0 : Int32)), (.int (0 : Int32)), (.ref ar)]) rfl (hb hby d7_4) _ ?_
    rw [len_of S1 M1]
    show Steps p.tables e below (s₁.setTop (mkF m 5 #[.val (.ref ar)] [(.int (2 : Int32)), (.int (0 : Int32)), (.int (0 : Int32)), (.ref ar)])) _
    refine st2 _ ?_
    show Steps p.tables e below (T2.setTop (mkF m 8 #[.val (.ref ar)] [])) _
    exact X2.returnOut hx Bd.returns (hb hby d7_8) hr
  · show Q_rmS1_2 Z ar ka x0 x1 h0 n0 _ T2.heap _
    exact ⟨y0_2, rfl, N2, ((Keep.refl h0 [ar]).trans Kp2 (allS (Or.inl (List.mem_of_getElem? (i := 0) rfl)) all0)), Fq2_0⟩
def Q_rmS3 (Z : State) (ar : Addr) (ka : ClassId) (x0 : Int64) (x1 : Int64) (x2 : Int64) (h0 : Heap) (n0 : Nat) (v : Option Value) (h : Heap) (L : List Loc) : Prop := ∃ y0 : Int64, ∃ y1 : Int64, v = none ∧ Fr n0 L ∧ Keep h0 h [ar] ∧ Arv Z h ar ka .long (3 : Int32) [(.long y0), (.long y1), (.long (own_mx (own_mx x0 x1) x2))] (.long (0 : Int64))
theorem ef_rmS3 (m : MethodId) (ar : Addr) : entryFrame m #[(.ref ar), (.int (0 : Int32)), (.int (3 : Int32))] 7 = mkF m 0 #[.val (.ref ar), .val (.int (0 : Int32)), .val (.int (3 : Int32)), .unset, .unset, .unset, .unset] [] := by first | (simp [entryFrame, mkF, argsToLocals, Value.category]; done) | rfl
set_option maxRecDepth 65536 in
set_option maxHeartbeats 40000000 in
theorem rmS3 (l : Launch) (Z : State) (a0 : Array Value) (hw : ∀ d ∈ tables_1, d.before a0 Z = true) (ws : List Jvm.Cond) (ar : Addr) (ka : ClassId) (x0 : Int64) (x1 : Int64) (x2 : Int64) (h0 : Heap) (n0 : Nat) (Z0 : n0 ≤ h0.size) (V_ar : Arv Z h0 ar ka .long (3 : Int32) [(.long x0), (.long x1), (.long x2)] (.long (0 : Int64))) (g_ar : n0 ≤ ar) :
    MetFree l (⟨"java/util/DualPivotQuicksort", "insertionSort", "([JII)V"⟩ : MethodName) (head1 (Jvm.Cond.code (⟨"java/util/DualPivotQuicksort", "insertionSort", "([JII)V"⟩ : MethodName) jdk_2529_method_15_code 7 none :: ws) ({ frames := 0, cells := 0, slots := 0, locals := 0 } : Room)) (fun a U => a = #[(.ref ar), (.int (0 : Int32)), (.int (3 : Int32))] ∧ Z.Warmed39 U.vm ∧ U.heap = h0) (fun _ _ _ _ _ => True) (fun _ U o U' => ∃ v L, o = .returned v ∧ Q_rmS3 Z ar ka x0 x1 x2 h0 n0 v U'.heap L ∧ FrameEnd U o U' L ({ frames := 0, cells := 0, slots := 0, locals := 0 } : Room).cells ({ frames := 0, cells := 0, slots := 0, locals := 0 } : Room).slots) := by
  refine MetFree.of_bodySF (plainFor_of_name pn_1) hisR ?_
  intro p e s m args below meth c s₁ Bd hml0 hP hK
  obtain ⟨rfl, hZ, hh⟩ := hP
  have hx := Bd.exec
  have hby := Bd.bytes
  have hml : c.maxLocals = 7 := hml0
  have hown : s.vm.findClass "java/util/DualPivotQuicksort" = some m.cls := findClass_of_methodNamed Bd.named
  have hnm := (name_of_methodNamed Bd.named Bd.method).1
  have X0 : Stand p l e ({ frames := 0, cells := 0, slots := 0, locals := 0 } : Room) s m #[(.ref ar), (.int (0 : Int32)), (.int (3 : Int32))] below meth c s₁ [] 0 0 := Stand.of_body Bd
  have e0 : s₁.heap = h0 := by rw [← hh, Bd.state]; rfl
  have N0 := Fr.nil n0
  have pre0 : ∀ t, Steps p.tables e below (s₁.setTop (mkF m 0 #[.val (.ref ar), .val (.int (0 : Int32)), .val (.int (3 : Int32)), .unset, .unset, .unset, .unset] [])) t → Steps p.tables e below (s₁.setTop (entryFrame m #[(.ref ar), (.int (0 : Int32)), (.int (3 : Int32))] 7)) t := fun t k => castTop (ef_rmS3 m ar) k
  obtain ⟨jj_1, y0_1, T1, h1, lo1, X1, e1, N1, Kp1, Fq1_0, st1⟩ := turn3_1 ka x0 x1 x2 ar X0 hx hZ hw hby hml hown e0 N0 Z0  V_ar g_ar
  obtain ⟨jj_2, y0_2, y1_2, T2, h2, lo2, X2, e2, N2, Kp2, Fq2_0, st2⟩ := turn3_2 ka y0_1 (own_mx x0 x1) x2 ar jj_1 x1 X1 hx hZ hw hby hml hown e1 N1 (Nat.le_trans Z0 Kp1.1)  Fq1_0 g_ar
  obtain ⟨fs, hr, hrun, hended, hW, hsame⟩ := X2.leave (v := none) (fun _ => rfl)
  refine ⟨_, _, pre0 _ ?_, hrun, hended, _, _, rfl, ?_, ⟨_, rfl⟩, hW, hsame.mono (by decide) (by decide)⟩
  · show Steps p.tables e below (s₁.setTop (mkF m 0 #[.val (.ref ar), .val (.int (0 : Int32)), .val (.int (3 : Int32)), .unset, .unset, .unset, .unset] [])) _
    refine XS.iloadN X0.here hx rfl (hb hby d4_0) rfl ?_
    show Steps p.tables e below (s₁.setTop (mkF m 1 #[.val (.ref ar), .val (.int (0 : Int32)), .val (.int (3 : Int32)), .unset, .unset, .unset, .unset] [(.int (0 : Int32))])) _
    refine XS.istore X0.here hx rfl (hb hby d4_1) rfl (l' := #[.val (.ref ar), .val (.int (0 : Int32)), .val (.int (3 : Int32)), .unset, .val (.int (0 : Int32)), .unset, .unset]) rfl ?_
    show Steps p.tables e below (s₁.setTop (mkF m 3 #[.val (.ref ar), .val (.int (0 : Int32)), .val (.int (3 : Int32)), .unset, .val (.int (0 : Int32)), .unset, .unset] [])) _
    refine st1 _ ?_
    show Steps p.tables e below (T1.setTop (mkF m 3 #[.val (.ref ar), .val (.int (0 : Int32)), .val (.int (3 : Int32)), .val (.int jj_1), .val (.int (1 : Int32)), .val (.long x1), .second] [])) _
    refine st2 _ ?_
    show Steps p.tables e below (T2.setTop (mkF m 3 #[.val (.ref ar), .val (.int (0 : Int32)), .val (.int (3 : Int32)), .val (.int jj_2), .val (.int (2 : Int32)), .val (.long x2), .second] [])) _
    refine XS.iinc X2.here hx rfl (hb hby d4_3) rfl (l' := #[.val (.ref ar), .val (.int (0 : Int32)), .val (.int (3 : Int32)), .val (.int jj_2), .val (.int ((2 : Int32) + (1 : Int32))), .val (.long x2), .second]) rfl ?_
    show Steps p.tables e below (T2.setTop (mkF m 6 #[.val (.ref ar), .val (.int (0 : Int32)), .val (.int (3 : Int32)), .val (.int jj_2), .val (.int ((2 : Int32) + (1 : Int32))), .val (.long x2), .second] [])) _
    rw [show ((2 : Int32) + (1 : Int32)) = (3 : Int32) from by decide]
    show Steps p.tables e below (T2.setTop (mkF m 6 #[.val (.ref ar), .val (.int (0 : Int32)), .val (.int (3 : Int32)), .val (.int jj_2), .val (.int (3 : Int32)), .val (.long x2), .second] [])) _
    refine XS.iload X2.here hx rfl (hb hby d4_6) rfl ?_
    show Steps p.tables e below (T2.setTop (mkF m 8 #[.val (.ref ar), .val (.int (0 : Int32)), .val (.int (3 : Int32)), .val (.int jj_2), .val (.int (3 : Int32)), .val (.long x2), .second] [(.int (3 : Int32))])) _
    refine XS.iloadN X2.here hx rfl (hb hby d4_8) rfl ?_
    show Steps p.tables e below (T2.setTop (mkF m 9 #[.val (.ref ar), .val (.int (0 : Int32)), .val (.int (3 : Int32)), .val (.int jj_2), .val (.int (3 : Int32)), .val (.long x2), .second] [(.int (3 : Int32)), (.int (3 : Int32))])) _
    refine XS.icmpYes X2.here hx rfl (pc0 := 9) (pc' := 69) rfl (hb hby d4_9) rfl (flt (by decide : ¬ ((3 : Int32) < (3 : Int32)))).2.1 (by decide) (by decide) ?_
    show Steps p.tables e below (T2.setTop (mkF m 69 #[.val (.ref ar), .val (.int (0 : Int32)), .val (.int (3 : Int32)), .val (.int jj_2), .val (.int (3 : Int32)), .val (.long x2), .second] [])) _
    exact X2.returnOut hx Bd.returns (hb hby d4_69) hr
  · show Q_rmS3 Z ar ka x0 x1 x2 h0 n0 _ T2.heap _
    rw [e2]
    exact ⟨y0_2, y1_2, rfl, N2, (((Keep.refl h0 [ar]).trans Kp1 (allS (Or.inl (List.mem_of_getElem? (i := 0) rfl)) all0)).trans Kp2 (allS (Or.inl (List.mem_of_getElem? (i := 0) rfl)) all0)), Fq2_0⟩
def Q_rmS5_3 (Z : State) (ar : Addr) (ka : ClassId) (x0 : Int64) (x1 : Int64) (x2 : Int64) (h0 : Heap) (n0 : Nat) (v : Option Value) (h : Heap) (L : List Loc) : Prop := ∃ y0 : Int64, ∃ y1 : Int64, v = none ∧ Fr n0 L ∧ Keep h0 h [ar] ∧ Arv Z h ar ka .long (3 : Int32) [(.long y0), (.long y1), (.long (own_mx (own_mx x0 x1) x2))] (.long (0 : Int64))
theorem ef_rmS5_3 (m : MethodId) (ar : Addr) : entryFrame m #[.null, (.ref ar), (.int (0 : Int32)), (.int (0 : Int32)), (.int (3 : Int32))] 25 = mkF m 0 #[.val .null, .val (.ref ar), .val (.int (0 : Int32)), .val (.int (0 : Int32)), .val (.int (3 : Int32)), .unset, .unset, .unset, .unset, .unset, .unset, .unset, .unset, .unset, .unset, .unset, .unset, .unset, .unset, .unset, .unset, .unset, .unset, .unset, .unset] [] := by first | (simp [entryFrame, mkF, argsToLocals, Value.category]; done) | rfl
set_option maxRecDepth 65536 in
set_option maxHeartbeats 40000000 in
theorem rmS5_3 (l : Launch) (Z : State) (a0 : Array Value) (hw : ∀ d ∈ tables_1, d.before a0 Z = true) (ws : List Jvm.Cond) (ar : Addr) (ka : ClassId) (x0 : Int64) (x1 : Int64) (x2 : Int64) (h0 : Heap) (n0 : Nat) (Z0 : n0 ≤ h0.size) (V_ar : Arv Z h0 ar ka .long (3 : Int32) [(.long x0), (.long x1), (.long x2)] (.long (0 : Int64))) (g_ar : n0 ≤ ar) :
    MetFree l (⟨"java/util/DualPivotQuicksort", "sort", "(Ljava/util/DualPivotQuicksort$Sorter;[JIII)V"⟩ : MethodName) (head1 (Jvm.Cond.code (⟨"java/util/DualPivotQuicksort", "sort", "(Ljava/util/DualPivotQuicksort$Sorter;[JIII)V"⟩ : MethodName) jdk_2529_method_13_code 25 none :: ws) ({ frames := 1, cells := 0, slots := 0, locals := 18 } : Room)) (fun a U => a = #[.null, (.ref ar), (.int (0 : Int32)), (.int (0 : Int32)), (.int (3 : Int32))] ∧ Z.Warmed39 U.vm ∧ U.heap = h0) (fun _ _ _ _ _ => True) (fun _ U o U' => ∃ v L, o = .returned v ∧ Q_rmS5_3 Z ar ka x0 x1 x2 h0 n0 v U'.heap L ∧ FrameEnd U o U' L ({ frames := 1, cells := 0, slots := 0, locals := 18 } : Room).cells ({ frames := 1, cells := 0, slots := 0, locals := 18 } : Room).slots) := by
  refine MetFree.of_bodySF (plainFor_of_name pn_1) hisR ?_
  intro p e s m args below meth c s₁ Bd hml0 hP hK
  obtain ⟨rfl, hZ, hh⟩ := hP
  have hx := Bd.exec
  have hby := Bd.bytes
  have hml : c.maxLocals = 25 := hml0
  have hown : s.vm.findClass "java/util/DualPivotQuicksort" = some m.cls := findClass_of_methodNamed Bd.named
  have hnm := (name_of_methodNamed Bd.named Bd.method).1
  have X0 : Stand p l e ({ frames := 1, cells := 0, slots := 0, locals := 18 } : Room) s m #[.null, (.ref ar), (.int (0 : Int32)), (.int (0 : Int32)), (.int (3 : Int32))] below meth c s₁ [] 0 0 := Stand.of_body Bd
  have e0 : s₁.heap = h0 := by rw [← hh, Bd.state]; rfl
  have N0 := Fr.nil n0
  have pre0 : ∀ t, Steps p.tables e below (s₁.setTop (mkF m 0 #[.val .null, .val (.ref ar), .val (.int (0 : Int32)), .val (.int (0 : Int32)), .val (.int (3 : Int32)), .unset, .unset, .unset, .unset, .unset, .unset, .unset, .unset, .unset, .unset, .unset, .unset, .unset, .unset, .unset, .unset, .unset, .unset, .unset, .unset] [])) t → Steps p.tables e below (s₁.setTop (entryFrame m #[.null, (.ref ar), (.int (0 : Int32)), (.int (0 : Int32)), (.int (3 : Int32))] 25)) t := fun t k => castTop (ef_rmS5_3 m ar) k
  obtain ⟨_, _, ⟨T1, L1, k1, n1⟩, -, X1, ⟨Lc1, hQ1, l1, y1, z1⟩, st1⟩ := Jvm.LawKit.callS X0 hx (y := (⟨"java/util/DualPivotQuicksort", "insertionSort", "([JII)V"⟩ : MethodName)) hown (mvT hZ (hw _ (List.mem_of_getElem? (i := 54) rfl))) (mvT hZ (hw _ (List.mem_of_getElem? (i := 55) rfl))) (mvT hZ (hw _ (List.mem_of_getElem? (i := 49) rfl))) (mvT hZ (hw _ (List.mem_of_getElem? (i := 56) rfl))) (by decide) (backOf (W := 0) (rmS3 l Z a0 hw [] ar ka x0 x1 x2 h0 n0 Z0 V_ar g_ar) hZ (hw _ (List.mem_of_getElem? (i := 56) rfl)) (hw _ (List.mem_of_getElem? (i := 49) rfl)) (by decide) (by decide)) (g := (mkF m 57 #[.val .null, .val (.ref ar), .val (.int (0 : Int32)), .val (.int (0 : Int32)), .val (.int (3 : Int32)), .val (.int (2 : Int32)), .val (.int (3 : Int32)), .unset, .unset, .unset, .unset, .unset, .unset, .unset, .unset, .unset, .unset, .unset, .unset, .unset, .unset, .unset, .unset, .unset, .unset] [(.int (3 : Int32)), (.int (0 : Int32)), (.ref ar)])) rfl (by rw [hml]; rfl) (argsL := [(.ref ar), (.int (0 : Int32)), (.int (3 : Int32))]) (rest := []) (lenOf pd_1 rfl) rfl (by show 2 * 0 + _ ≤ _; exact Nat.le_of_eq rfl) (hb hby d5_57) (fun _ _ => ⟨rfl, e0, (by decide : 0 + 0 ≤ _), (by decide : 0 + 0 ≤ _)⟩)
  dsimp only [Pt.U, Pt.locs, Pt.cells, Pt.slots] at X1 l1 y1 z1 st1 hQ1
  subst l1 y1 z1
  obtain ⟨y0_1, y1_1, rfl, Nq1, Kp1, Fq1_0⟩ := hQ1
  have N1 := Fr.app N0 Nq1
  obtain ⟨fs, hr, hrun, hended, hW, hsame⟩ := X1.leave (v := none) (fun _ => rfl)
  refine ⟨_, _, pre0 _ ?_, hrun, hended, _, _, rfl, ?_, ⟨_, rfl⟩, hW, hsame.mono (by decide) (by decide)⟩
  · show Steps p.tables e below (s₁.setTop (mkF m 0 #[.val .null, .val (.ref ar), .val (.int (0 : Int32)), .val (.int (0 : Int32)), .val (.int (3 : Int32)), .unset, .unset, .unset, .unset, .unset, .unset, .unset, .unset, .unset, .unset, .unset, .unset, .unset, .unset, .unset, .unset, .unset, .unset, .unset, .unset] [])) _
    refine XS.iload X0.here hx rfl (hb hby d5_0) rfl ?_
    show Steps p.tables e below (s₁.setTop (mkF m 2 #[.val .null, .val (.ref ar), .val (.int (0 : Int32)), .val (.int (0 : Int32)), .val (.int (3 : Int32)), .unset, .unset, .unset, .unset, .unset, .unset, .unset, .unset, .unset, .unset, .unset, .unset, .unset, .unset, .unset, .unset, .unset, .unset, .unset, .unset] [(.int (3 : Int32))])) _
    refine XS.iconst X0.here hx rfl (hb hby d5_2) ?_
    show Steps p.tables e below (s₁.setTop (mkF m 3 #[.val .null, .val (.ref ar), .val (.int (0 : Int32)), .val (.int (0 : Int32)), .val (.int (3 : Int32)), .unset, .unset, .unset, .unset, .unset, .unset, .unset, .unset, .unset, .unset, .unset, .unset, .unset, .unset, .unset, .unset, .unset, .unset, .unset, .unset] [(.int (1 : Int32)), (.int (3 : Int32))])) _
    refine XS.isub X0.here hx rfl (hb hby d5_3) rfl ?_
    show Steps p.tables e below (s₁.setTop (mkF m 4 #[.val .null, .val (.ref ar), .val (.int (0 : Int32)), .val (.int (0 : Int32)), .val (.int (3 : Int32)), .unset, .unset, .unset, .unset, .unset, .unset, .unset, .unset, .unset, .unset, .unset, .unset, .unset, .unset, .unset, .unset, .unset, .unset, .unset, .unset] [(.int ((3 : Int32) - (1 : Int32)))])) _
    rw [show ((3 : Int32) - (1 : Int32)) = (2 : Int32) from by decide]
    show Steps p.tables e below (s₁.setTop (mkF m 4 #[.val .null, .val (.ref ar), .val (.int (0 : Int32)), .val (.int (0 : Int32)), .val (.int (3 : Int32)), .unset, .unset, .unset, .unset, .unset, .unset, .unset, .unset, .unset, .unset, .unset, .unset, .unset, .unset, .unset, .unset, .unset, .unset, .unset, .unset] [(.int (2 : Int32))])) _
    refine XS.istore X0.here hx rfl (hb hby d5_4) rfl (l' := #[.val .null, .val (.ref ar), .val (.int (0 : Int32)), .val (.int (0 : Int32)), .val (.int (3 : Int32)), .val (.int (2 : Int32)), .unset, .unset, .unset, .unset, .unset, .unset, .unset, .unset, .unset, .unset, .unset, .unset, .unset, .unset, .unset, .unset, .unset, .unset, .unset]) rfl ?_
    show Steps p.tables e below (s₁.setTop (mkF m 6 #[.val .null, .val (.ref ar), .val (.int (0 : Int32)), .val (.int (0 : Int32)), .val (.int (3 : Int32)), .val (.int (2 : Int32)), .unset, .unset, .unset, .unset, .unset, .unset, .unset, .unset, .unset, .unset, .unset, .unset, .unset, .unset, .unset, .unset, .unset, .unset, .unset] [])) _
    refine XS.iload X0.here hx rfl (hb hby d5_6) rfl ?_
    show Steps p.tables e below (s₁.setTop (mkF m 8 #[.val .null, .val (.ref ar), .val (.int (0 : Int32)), .val (.int (0 : Int32)), .val (.int (3 : Int32)), .val (.int (2 : Int32)), .unset, .unset, .unset, .unset, .unset, .unset, .unset, .unset, .unset, .unset, .unset, .unset, .unset, .unset, .unset, .unset, .unset, .unset, .unset] [(.int (3 : Int32))])) _
    refine XS.iloadN X0.here hx rfl (hb hby d5_8) rfl ?_
    show Steps p.tables e below (s₁.setTop (mkF m 9 #[.val .null, .val (.ref ar), .val (.int (0 : Int32)), .val (.int (0 : Int32)), .val (.int (3 : Int32)), .val (.int (2 : Int32)), .unset, .unset, .unset, .unset, .unset, .unset, .unset, .unset, .unset, .unset, .unset, .unset, .unset, .unset, .unset, .unset, .unset, .unset, .unset] [(.int (0 : Int32)), (.int (3 : Int32))])) _
    refine XS.isub X0.here hx rfl (hb hby d5_9) rfl ?_
    show Steps p.tables e below (s₁.setTop (mkF m 10 #[.val .null, .val (.ref ar), .val (.int (0 : Int32)), .val (.int (0 : Int32)), .val (.int (3 : Int32)), .val (.int (2 : Int32)), .unset, .unset, .unset, .unset, .unset, .unset, .unset, .unset, .unset, .unset, .unset, .unset, .unset, .unset, .unset, .unset, .unset, .unset, .unset] [(.int ((3 : Int32) - (0 : Int32)))])) _
    rw [show ((3 : Int32) - (0 : Int32)) = (3 : Int32) from by decide]
    show Steps p.tables e below (s₁.setTop (mkF m 10 #[.val .null, .val (.ref ar), .val (.int (0 : Int32)), .val (.int (0 : Int32)), .val (.int (3 : Int32)), .val (.int (2 : Int32)), .unset, .unset, .unset, .unset, .unset, .unset, .unset, .unset, .unset, .unset, .unset, .unset, .unset, .unset, .unset, .unset, .unset, .unset, .unset] [(.int (3 : Int32))])) _
    refine XS.istore X0.here hx rfl (hb hby d5_10) rfl (l' := #[.val .null, .val (.ref ar), .val (.int (0 : Int32)), .val (.int (0 : Int32)), .val (.int (3 : Int32)), .val (.int (2 : Int32)), .val (.int (3 : Int32)), .unset, .unset, .unset, .unset, .unset, .unset, .unset, .unset, .unset, .unset, .unset, .unset, .unset, .unset, .unset, .unset, .unset, .unset]) rfl ?_
    show Steps p.tables e below (s₁.setTop (mkF m 12 #[.val .null, .val (.ref ar), .val (.int (0 : Int32)), .val (.int (0 : Int32)), .val (.int (3 : Int32)), .val (.int (2 : Int32)), .val (.int (3 : Int32)), .unset, .unset, .unset, .unset, .unset, .unset, .unset, .unset, .unset, .unset, .unset, .unset, .unset, .unset, .unset, .unset, .unset, .unset] [])) _
    refine XS.iload X0.here hx rfl (hb hby d5_12) rfl ?_
    show Steps p.tables e below (s₁.setTop (mkF m 14 #[.val .null, .val (.ref ar), .val (.int (0 : Int32)), .val (.int (0 : Int32)), .val (.int (3 : Int32)), .val (.int (2 : Int32)), .val (.int (3 : Int32)), .unset, .unset, .unset, .unset, .unset, .unset, .unset, .unset, .unset, .unset, .unset, .unset, .unset, .unset, .unset, .unset, .unset, .unset] [(.int (3 : Int32))])) _
    refine XS.bipush X0.here hx rfl (hb hby d5_14) ?_
    show Steps p.tables e below (s₁.setTop (mkF m 16 #[.val .null, .val (.ref ar), .val (.int (0 : Int32)), .val (.int (0 : Int32)), .val (.int (3 : Int32)), .val (.int (2 : Int32)), .val (.int (3 : Int32)), .unset, .unset, .unset, .unset, .unset, .unset, .unset, .unset, .unset, .unset, .unset, .unset, .unset, .unset, .unset, .unset, .unset, .unset] [(.int (65 : Int32)), (.int (3 : Int32))])) _
    refine XS.iloadN X0.here hx rfl (hb hby d5_16) rfl ?_
    show Steps p.tables e below (s₁.setTop (mkF m 17 #[.val .null, .val (.ref ar), .val (.int (0 : Int32)), .val (.int (0 : Int32)), .val (.int (3 : Int32)), .val (.int (2 : Int32)), .val (.int (3 : Int32)), .unset, .unset, .unset, .unset, .unset, .unset, .unset, .unset, .unset, .unset, .unset, .unset, .unset, .unset, .unset, .unset, .unset, .unset] [(.int (0 : Int32)), (.int (65 : Int32)), (.int (3 : Int32))])) _
    refine XS.iadd X0.here hx rfl (hb hby d5_17) rfl ?_
    show Steps p.tables e below (s₁.setTop (mkF m 18 #[.val .null, .val (.ref ar), .val (.int (0 : Int32)), .val (.int (0 : Int32)), .val (.int (3 : Int32)), .val (.int (2 : Int32)), .val (.int (3 : Int32)), .unset, .unset, .unset, .unset, .unset, .unset, .unset, .unset, .unset, .unset, .unset, .unset, .unset, .unset, .unset, .unset, .unset, .unset] [(.int ((65 : Int32) + (0 : Int32))), (.int (3 : Int32))])) _
    rw [show ((65 : Int32) + (0 : Int32)) = (65 : Int32) from by decide]
    show Steps p.tables e below (s₁.setTop (mkF m 18 #[.val .null, .val (.ref ar), .val (.int (0 : Int32)), .val (.int (0 : Int32)), .val (.int (3 : Int32)), .val (.int (2 : Int32)), .val (.int (3 : Int32)), .unset, .unset, .unset, .unset, .unset, .unset, .unset, .unset, .unset, .unset, .unset, .unset, .unset, .unset, .unset, .unset, .unset, .unset] [(.int (65 : Int32)), (.int (3 : Int32))])) _
    refine XS.icmpNo X0.here hx rfl (hb hby d5_18) rfl (tlt (by decide : (3 : Int32) < (65 : Int32))).2.1 ?_
    show Steps p.tables e below (s₁.setTop (mkF m 21 #[.val .null, .val (.ref ar), .val (.int (0 : Int32)), .val (.int (0 : Int32)), .val (.int (3 : Int32)), .val (.int (2 : Int32)), .val (.int (3 : Int32)), .unset, .unset, .unset, .unset, .unset, .unset, .unset, .unset, .unset, .unset, .unset, .unset, .unset, .unset, .unset, .unset, .unset, .unset] [])) _
    refine XS.iloadN X0.here hx rfl (hb hby d5_21) rfl ?_
    show Steps p.tables e below (s₁.setTop (mkF m 22 #[.val .null, .val (.ref ar), .val (.int (0 : Int32)), .val (.int (0 : Int32)), .val (.int (3 : Int32)), .val (.int (2 : Int32)), .val (.int (3 : Int32)), .unset, .unset, .unset, .unset, .unset, .unset, .unset, .unset, .unset, .unset, .unset, .unset, .unset, .unset, .unset, .unset, .unset, .unset] [(.int (0 : Int32))])) _
    refine XS.iconst X0.here hx rfl (hb hby d5_22) ?_
    show Steps p.tables e below (s₁.setTop (mkF m 23 #[.val .null, .val (.ref ar), .val (.int (0 : Int32)), .val (.int (0 : Int32)), .val (.int (3 : Int32)), .val (.int (2 : Int32)), .val (.int (3 : Int32)), .unset, .unset, .unset, .unset, .unset, .unset, .unset, .unset, .unset, .unset, .unset, .unset, .unset, .unset, .unset, .unset, .unset, .unset] [(.int (1 : Int32)), (.int (0 : Int32))])) _
    refine XS.iand X0.here hx rfl (hb hby d5_23) rfl ?_
    show Steps p.tables e below (s₁.setTop (mkF m 24 #[.val .null, .val (.ref ar), .val (.int (0 : Int32)), .val (.int (0 : Int32)), .val (.int (3 : Int32)), .val (.int (2 : Int32)), .val (.int (3 : Int32)), .unset, .unset, .unset, .unset, .unset, .unset, .unset, .unset, .unset, .unset, .unset, .unset, .unset, .unset, .unset, .unset, .unset, .unset] [(.int ((0 : Int32) &&& (1 : Int32)))])) _
    rw [show ((0 : Int32) &&& (1 : Int32)) = (0 : Int32) from by decide]
    show Steps p.tables e below (s₁.setTop (mkF m 24 #[.val .null, .val (.ref ar), .val (.int (0 : Int32)), .val (.int (0 : Int32)), .val (.int (3 : Int32)), .val (.int (2 : Int32)), .val (.int (3 : Int32)), .unset, .unset, .unset, .unset, .unset, .unset, .unset, .unset, .unset, .unset, .unset, .unset, .unset, .unset, .unset, .unset, .unset, .unset] [(.int (0 : Int32))])) _
    refine XS.ifYes X0.here hx rfl (pc0 := 24) (pc' := 46) rfl (hb hby d5_24) rfl ((if0 _ _).trans (flt (by decide : ¬ ((0 : Int32) < (0 : Int32)))).2.2.2) (by decide) (by decide) ?_
    show Steps p.tables e below (s₁.setTop (mkF m 46 #[.val .null, .val (.ref ar), .val (.int (0 : Int32)), .val (.int (0 : Int32)), .val (.int (3 : Int32)), .val (.int (2 : Int32)), .val (.int (3 : Int32)), .unset, .unset, .unset, .unset, .unset, .unset, .unset, .unset, .unset, .unset, .unset, .unset, .unset, .unset, .unset, .unset, .unset, .unset] [])) _
    refine XS.iload X0.here hx rfl (hb hby d5_46) rfl ?_
    show Steps p.tables e below (s₁.setTop (mkF m 48 #[.val .null, .val (.ref ar), .val (.int (0 : Int32)), .val (.int (0 : Int32)), .val (.int (3 : Int32)), .val (.int (2 : Int32)), .val (.int (3 : Int32)), .unset, .unset, .unset, .unset, .unset, .unset, .unset, .unset, .unset, .unset, .unset, .unset, .unset, .unset, .unset, .unset, .unset, .unset] [(.int (3 : Int32))])) _
    refine XS.bipush X0.here hx rfl (hb hby d5_48) ?_
    show Steps p.tables e below (s₁.setTop (mkF m 50 #[.val .null, .val (.ref ar), .val (.int (0 : Int32)), .val (.int (0 : Int32)), .val (.int (3 : Int32)), .val (.int (2 : Int32)), .val (.int (3 : Int32)), .unset, .unset, .unset, .unset, .unset, .unset, .unset, .unset, .unset, .unset, .unset, .unset, .unset, .unset, .unset, .unset, .unset, .unset] [(.int (44 : Int32)), (.int (3 : Int32))])) _
    refine XS.icmpNo X0.here hx rfl (hb hby d5_50) rfl (tlt (by decide : (3 : Int32) < (44 : Int32))).2.1 ?_
    show Steps p.tables e below (s₁.setTop (mkF m 53 #[.val .null, .val (.ref ar), .val (.int (0 : Int32)), .val (.int (0 : Int32)), .val (.int (3 : Int32)), .val (.int (2 : Int32)), .val (.int (3 : Int32)), .unset, .unset, .unset, .unset, .unset, .unset, .unset, .unset, .unset, .unset, .unset, .unset, .unset, .unset, .unset, .unset, .unset, .unset] [])) _
    refine XS.aloadN X0.here hx rfl (hb hby d5_53) rfl rfl ?_
    show Steps p.tables e below (s₁.setTop (mkF m 54 #[.val .null, .val (.ref ar), .val (.int (0 : Int32)), .val (.int (0 : Int32)), .val (.int (3 : Int32)), .val (.int (2 : Int32)), .val (.int (3 : Int32)), .unset, .unset, .unset, .unset, .unset, .unset, .unset, .unset, .unset, .unset, .unset, .unset, .unset, .unset, .unset, .unset, .unset, .unset] [(.ref ar)])) _
    refine XS.iloadN X0.here hx rfl (hb hby d5_54) rfl ?_
    show Steps p.tables e below (s₁.setTop (mkF m 55 #[.val .null, .val (.ref ar), .val (.int (0 : Int32)), .val (.int (0 : Int32)), .val (.int (3 : Int32)), .val (.int (2 : Int32)), .val (.int (3 : Int32)), .unset, .unset, .unset, .unset, .unset, .unset, .unset, .unset, .unset, .unset, .unset, .unset, .unset, .unset, .unset, .unset, .unset, .unset] [(.int (0 : Int32)), (.ref ar)])) _
    refine XS.iload X0.here hx rfl (hb hby d5_55) rfl ?_
    show Steps p.tables e below (s₁.setTop (mkF m 57 #[.val .null, .val (.ref ar), .val (.int (0 : Int32)), .val (.int (0 : Int32)), .val (.int (3 : Int32)), .val (.int (2 : Int32)), .val (.int (3 : Int32)), .unset, .unset, .unset, .unset, .unset, .unset, .unset, .unset, .unset, .unset, .unset, .unset, .unset, .unset, .unset, .unset, .unset, .unset] [(.int (3 : Int32)), (.int (0 : Int32)), (.ref ar)])) _
    refine st1 _ ?_
    show Steps p.tables e below (T1.setTop (mkF m 60 #[.val .null, .val (.ref ar), .val (.int (0 : Int32)), .val (.int (0 : Int32)), .val (.int (3 : Int32)), .val (.int (2 : Int32)), .val (.int (3 : Int32)), .unset, .unset, .unset, .unset, .unset, .unset, .unset, .unset, .unset, .unset, .unset, .unset, .unset, .unset, .unset, .unset, .unset, .unset] [])) _
    exact X1.returnOut hx Bd.returns (hb hby d5_60) hr
  · show Q_rmS5_3 Z ar ka x0 x1 x2 h0 n0 _ T1.heap _
    exact ⟨y0_1, y1_1, rfl, N1, ((Keep.refl h0 [ar]).trans Kp1 (allS (Or.inl (List.mem_of_getElem? (i := 0) rfl)) all0)), Fq1_0⟩
def Q_rmS4_3 (Z : State) (ar : Addr) (ka : ClassId) (x0 : Int64) (x1 : Int64) (x2 : Int64) (h0 : Heap) (n0 : Nat) (v : Option Value) (h : Heap) (L : List Loc) : Prop := ∃ y0 : Int64, ∃ y1 : Int64, v = none ∧ Fr n0 L ∧ Keep h0 h [ar] ∧ Arv Z h ar ka .long (3 : Int32) [(.long y0), (.long y1), (.long (own_mx (own_mx x0 x1) x2))] (.long (0 : Int64))
theorem ef_rmS4_3 (m : MethodId) (ar : Addr) : entryFrame m #[(.ref ar), (.int (0 : Int32)), (.int (0 : Int32)), (.int (3 : Int32))] 7 = mkF m 0 #[.val (.ref ar), .val (.int (0 : Int32)), .val (.int (0 : Int32)), .val (.int (3 : Int32)), .unset, .unset, .unset] [] := by first | (simp [entryFrame, mkF, argsToLocals, Value.category]; done) | rfl
set_option maxRecDepth 65536 in
set_option maxHeartbeats 40000000 in
theorem rmS4_3 (l : Launch) (Z : State) (a0 : Array Value) (hw : ∀ d ∈ tables_1, d.before a0 Z = true) (ws : List Jvm.Cond) (ar : Addr) (ka : ClassId) (x0 : Int64) (x1 : Int64) (x2 : Int64) (h0 : Heap) (n0 : Nat) (Z0 : n0 ≤ h0.size) (V_ar : Arv Z h0 ar ka .long (3 : Int32) [(.long x0), (.long x1), (.long x2)] (.long (0 : Int64))) (g_ar : n0 ≤ ar) :
    MetFree l (⟨"java/util/DualPivotQuicksort", "sort", "([JIII)V"⟩ : MethodName) (head1 (Jvm.Cond.code (⟨"java/util/DualPivotQuicksort", "sort", "([JIII)V"⟩ : MethodName) jdk_2529_method_12_code 7 none :: ws) ({ frames := 2, cells := 0, slots := 0, locals := 54 } : Room)) (fun a U => a = #[(.ref ar), (.int (0 : Int32)), (.int (0 : Int32)), (.int (3 : Int32))] ∧ Z.Warmed39 U.vm ∧ U.heap = h0) (fun _ _ _ _ _ => True) (fun _ U o U' => ∃ v L, o = .returned v ∧ Q_rmS4_3 Z ar ka x0 x1 x2 h0 n0 v U'.heap L ∧ FrameEnd U o U' L ({ frames := 2, cells := 0, slots := 0, locals := 54 } : Room).cells ({ frames := 2, cells := 0, slots := 0, locals := 54 } : Room).slots) := by
  refine MetFree.of_bodySF (plainFor_of_name pn_1) hisR ?_
  intro p e s m args below meth c s₁ Bd hml0 hP hK
  obtain ⟨rfl, hZ, hh⟩ := hP
  have hx := Bd.exec
  have hby := Bd.bytes
  have hml : c.maxLocals = 7 := hml0
  have hown : s.vm.findClass "java/util/DualPivotQuicksort" = some m.cls := findClass_of_methodNamed Bd.named
  have hnm := (name_of_methodNamed Bd.named Bd.method).1
  have X0 : Stand p l e ({ frames := 2, cells := 0, slots := 0, locals := 54 } : Room) s m #[(.ref ar), (.int (0 : Int32)), (.int (0 : Int32)), (.int (3 : Int32))] below meth c s₁ [] 0 0 := Stand.of_body Bd
  have e0 : s₁.heap = h0 := by rw [← hh, Bd.state]; rfl
  have N0 := Fr.nil n0
  have pre0 : ∀ t, Steps p.tables e below (s₁.setTop (mkF m 0 #[.val (.ref ar), .val (.int (0 : Int32)), .val (.int (0 : Int32)), .val (.int (3 : Int32)), .unset, .unset, .unset] [])) t → Steps p.tables e below (s₁.setTop (entryFrame m #[(.ref ar), (.int (0 : Int32)), (.int (0 : Int32)), (.int (3 : Int32))] 7)) t := fun t k => castTop (ef_rmS4_3 m ar) k
  obtain ⟨_, _, ⟨T1, L1, k1, n1⟩, -, X1, ⟨Lc1, hQ1, l1, y1, z1⟩, st1⟩ := Jvm.LawKit.callS X0 hx (y := (⟨"java/util/DualPivotQuicksort", "sort", "(Ljava/util/DualPivotQuicksort$Sorter;[JIII)V"⟩ : MethodName)) hown (mvT hZ (hw _ (List.mem_of_getElem? (i := 51) rfl))) (mvT hZ (hw _ (List.mem_of_getElem? (i := 52) rfl))) (mvT hZ (hw _ (List.mem_of_getElem? (i := 49) rfl))) (mvT hZ (hw _ (List.mem_of_getElem? (i := 53) rfl))) (by decide) (backOf (W := 0) (rmS5_3 l Z a0 hw [] ar ka x0 x1 x2 h0 n0 Z0 V_ar g_ar) hZ (hw _ (List.mem_of_getElem? (i := 53) rfl)) (hw _ (List.mem_of_getElem? (i := 49) rfl)) (by decide) (by decide)) (g := (mkF m 73 #[.val (.ref ar), .val (.int (0 : Int32)), .val (.int (0 : Int32)), .val (.int (3 : Int32)), .val (.int (3 : Int32)), .unset, .unset] [(.int (3 : Int32)), (.int (0 : Int32)), (.int (0 : Int32)), (.ref ar), .null])) rfl (by rw [hml]; rfl) (argsL := [.null, (.ref ar), (.int (0 : Int32)), (.int (0 : Int32)), (.int (3 : Int32))]) (rest := []) (lenOf pd_2 rfl) rfl (by show 2 * 0 + _ ≤ _; exact Nat.le_of_eq rfl) (hb hby d6_73) (fun _ _ => ⟨rfl, e0, (by decide : 0 + 0 ≤ _), (by decide : 0 + 0 ≤ _)⟩)
  dsimp only [Pt.U, Pt.locs, Pt.cells, Pt.slots] at X1 l1 y1 z1 st1 hQ1
  subst l1 y1 z1
  obtain ⟨y0_1, y1_1, rfl, Nq1, Kp1, Fq1_0⟩ := hQ1
  have N1 := Fr.app N0 Nq1
  obtain ⟨fs, hr, hrun, hended, hW, hsame⟩ := X1.leave (v := none) (fun _ => rfl)
  refine ⟨_, _, pre0 _ ?_, hrun, hended, _, _, rfl, ?_, ⟨_, rfl⟩, hW, hsame.mono (by decide) (by decide)⟩
  · show Steps p.tables e below (s₁.setTop (mkF m 0 #[.val (.ref ar), .val (.int (0 : Int32)), .val (.int (0 : Int32)), .val (.int (3 : Int32)), .unset, .unset, .unset] [])) _
    refine XS.iloadN X0.here hx rfl (hb hby d6_0) rfl ?_
    show Steps p.tables e below (s₁.setTop (mkF m 1 #[.val (.ref ar), .val (.int (0 : Int32)), .val (.int (0 : Int32)), .val (.int (3 : Int32)), .unset, .unset, .unset] [(.int (3 : Int32))])) _
    refine XS.iloadN X0.here hx rfl (hb hby d6_1) rfl ?_
    show Steps p.tables e below (s₁.setTop (mkF m 2 #[.val (.ref ar), .val (.int (0 : Int32)), .val (.int (0 : Int32)), .val (.int (3 : Int32)), .unset, .unset, .unset] [(.int (0 : Int32)), (.int (3 : Int32))])) _
    refine XS.isub X0.here hx rfl (hb hby d6_2) rfl ?_
    show Steps p.tables e below (s₁.setTop (mkF m 3 #[.val (.ref ar), .val (.int (0 : Int32)), .val (.int (0 : Int32)), .val (.int (3 : Int32)), .unset, .unset, .unset] [(.int ((3 : Int32) - (0 : Int32)))])) _
    rw [show ((3 : Int32) - (0 : Int32)) = (3 : Int32) from by decide]
    show Steps p.tables e below (s₁.setTop (mkF m 3 #[.val (.ref ar), .val (.int (0 : Int32)), .val (.int (0 : Int32)), .val (.int (3 : Int32)), .unset, .unset, .unset] [(.int (3 : Int32))])) _
    refine XS.istore X0.here hx rfl (hb hby d6_3) rfl (l' := #[.val (.ref ar), .val (.int (0 : Int32)), .val (.int (0 : Int32)), .val (.int (3 : Int32)), .val (.int (3 : Int32)), .unset, .unset]) rfl ?_
    show Steps p.tables e below (s₁.setTop (mkF m 5 #[.val (.ref ar), .val (.int (0 : Int32)), .val (.int (0 : Int32)), .val (.int (3 : Int32)), .val (.int (3 : Int32)), .unset, .unset] [])) _
    refine XS.iloadN X0.here hx rfl (hb hby d6_5) rfl ?_
    show Steps p.tables e below (s₁.setTop (mkF m 6 #[.val (.ref ar), .val (.int (0 : Int32)), .val (.int (0 : Int32)), .val (.int (3 : Int32)), .val (.int (3 : Int32)), .unset, .unset] [(.int (0 : Int32))])) _
    refine XS.iconst X0.here hx rfl (hb hby d6_6) ?_
    show Steps p.tables e below (s₁.setTop (mkF m 7 #[.val (.ref ar), .val (.int (0 : Int32)), .val (.int (0 : Int32)), .val (.int (3 : Int32)), .val (.int (3 : Int32)), .unset, .unset] [(.int (1 : Int32)), (.int (0 : Int32))])) _
    refine XS.icmpYes X0.here hx rfl (pc0 := 7) (pc' := 68) rfl (hb hby d6_7) rfl (flt (by decide : ¬ ((1 : Int32) < (0 : Int32)))).2.2.2 (by decide) (by decide) ?_
    show Steps p.tables e below (s₁.setTop (mkF m 68 #[.val (.ref ar), .val (.int (0 : Int32)), .val (.int (0 : Int32)), .val (.int (3 : Int32)), .val (.int (3 : Int32)), .unset, .unset] [])) _
    refine XS.aconstNull X0.here hx rfl (hb hby d6_68) ?_
    show Steps p.tables e below (s₁.setTop (mkF m 69 #[.val (.ref ar), .val (.int (0 : Int32)), .val (.int (0 : Int32)), .val (.int (3 : Int32)), .val (.int (3 : Int32)), .unset, .unset] [.null])) _
    refine XS.aloadN X0.here hx rfl (hb hby d6_69) rfl rfl ?_
    show Steps p.tables e below (s₁.setTop (mkF m 70 #[.val (.ref ar), .val (.int (0 : Int32)), .val (.int (0 : Int32)), .val (.int (3 : Int32)), .val (.int (3 : Int32)), .unset, .unset] [(.ref ar), .null])) _
    refine XS.iconst X0.here hx rfl (hb hby d6_70) ?_
    show Steps p.tables e below (s₁.setTop (mkF m 71 #[.val (.ref ar), .val (.int (0 : Int32)), .val (.int (0 : Int32)), .val (.int (3 : Int32)), .val (.int (3 : Int32)), .unset, .unset] [(.int (0 : Int32)), (.ref ar), .null])) _
    refine XS.iloadN X0.here hx rfl (hb hby d6_71) rfl ?_
    show Steps p.tables e below (s₁.setTop (mkF m 72 #[.val (.ref ar), .val (.int (0 : Int32)), .val (.int (0 : Int32)), .val (.int (3 : Int32)), .val (.int (3 : Int32)), .unset, .unset] [(.int (0 : Int32)), (.int (0 : Int32)), (.ref ar), .null])) _
    refine XS.iloadN X0.here hx rfl (hb hby d6_72) rfl ?_
    show Steps p.tables e below (s₁.setTop (mkF m 73 #[.val (.ref ar), .val (.int (0 : Int32)), .val (.int (0 : Int32)), .val (.int (3 : Int32)), .val (.int (3 : Int32)), .unset, .unset] [(.int (3 : Int32)), (.int (0 : Int32)), (.int (0 : Int32)), (.ref ar), .null])) _
    refine st1 _ ?_
    show Steps p.tables e below (T1.setTop (mkF m 76 #[.val (.ref ar), .val (.int (0 : Int32)), .val (.int (0 : Int32)), .val (.int (3 : Int32)), .val (.int (3 : Int32)), .unset, .unset] [])) _
    exact X1.returnOut hx Bd.returns (hb hby d6_76) hr
  · show Q_rmS4_3 Z ar ka x0 x1 x2 h0 n0 _ T1.heap _
    exact ⟨y0_1, y1_1, rfl, N1, ((Keep.refl h0 [ar]).trans Kp1 (allS (Or.inl (List.mem_of_getElem? (i := 0) rfl)) all0)), Fq1_0⟩
def Q_rmS1_3 (Z : State) (ar : Addr) (ka : ClassId) (x0 : Int64) (x1 : Int64) (x2 : Int64) (h0 : Heap) (n0 : Nat) (v : Option Value) (h : Heap) (L : List Loc) : Prop := ∃ y0 : Int64, ∃ y1 : Int64, v = none ∧ Fr n0 L ∧ Keep h0 h [ar] ∧ Arv Z h ar ka .long (3 : Int32) [(.long y0), (.long y1), (.long (own_mx (own_mx x0 x1) x2))] (.long (0 : Int64))
theorem ef_rmS1_3 (m : MethodId) (ar : Addr) : entryFrame m #[(.ref ar)] 1 = mkF m 0 #[.val (.ref ar)] [] := by first | (simp [entryFrame, mkF, argsToLocals, Value.category]; done) | rfl
set_option maxRecDepth 65536 in
set_option maxHeartbeats 40000000 in
theorem rmS1_3 (l : Launch) (Z : State) (a0 : Array Value) (hw : ∀ d ∈ tables_1, d.before a0 Z = true) (ws : List Jvm.Cond) (ar : Addr) (ka : ClassId) (x0 : Int64) (x1 : Int64) (x2 : Int64) (h0 : Heap) (n0 : Nat) (Z0 : n0 ≤ h0.size) (V_ar : Arv Z h0 ar ka .long (3 : Int32) [(.long x0), (.long x1), (.long x2)] (.long (0 : Int64))) (g_ar : n0 ≤ ar) :
    MetFree l (⟨"java/util/Arrays", "sort", "([J)V"⟩ : MethodName) (head1 (Jvm.Cond.code (⟨"java/util/Arrays", "sort", "([J)V"⟩ : MethodName) jdk_65_method_4_code 1 none :: ws) ({ frames := 3, cells := 0, slots := 0, locals := 72 } : Room)) (fun a U => a = #[(.ref ar)] ∧ Z.Warmed39 U.vm ∧ U.heap = h0) (fun _ _ _ _ _ => True) (fun _ U o U' => ∃ v L, o = .returned v ∧ Q_rmS1_3 Z ar ka x0 x1 x2 h0 n0 v U'.heap L ∧ FrameEnd U o U' L ({ frames := 3, cells := 0, slots := 0, locals := 72 } : Room).cells ({ frames := 3, cells := 0, slots := 0, locals := 72 } : Room).slots) := by
  refine MetFree.of_bodySF (plainFor_of_name pn_2) hisR ?_
  intro p e s m args below meth c s₁ Bd hml0 hP hK
  obtain ⟨rfl, hZ, hh⟩ := hP
  have hx := Bd.exec
  have hby := Bd.bytes
  have hml : c.maxLocals = 1 := hml0
  have hown : s.vm.findClass "java/util/Arrays" = some m.cls := findClass_of_methodNamed Bd.named
  have hnm := (name_of_methodNamed Bd.named Bd.method).1
  have X0 : Stand p l e ({ frames := 3, cells := 0, slots := 0, locals := 72 } : Room) s m #[(.ref ar)] below meth c s₁ [] 0 0 := Stand.of_body Bd
  have e0 : s₁.heap = h0 := by rw [← hh, Bd.state]; rfl
  have N0 := Fr.nil n0
  have pre0 : ∀ t, Steps p.tables e below (s₁.setTop (mkF m 0 #[.val (.ref ar)] [])) t → Steps p.tables e below (s₁.setTop (entryFrame m #[(.ref ar)] 1)) t := fun t k => castTop (ef_rmS1_3 m ar) k
  have Vc1 := V_ar
  obtain ⟨cl1, Ar1, -, S1, M1, -, -⟩ := Vc1
  obtain ⟨_, _, ⟨T2, L2, k2, n2⟩, -, X2, ⟨Lc2, hQ2, l2, y2, z2⟩, st2⟩ := Jvm.LawKit.callS X0 hx (y := (⟨"java/util/DualPivotQuicksort", "sort", "([JIII)V"⟩ : MethodName)) hown (mvT hZ (hw _ (List.mem_of_getElem? (i := 47) rfl))) (mvT hZ (hw _ (List.mem_of_getElem? (i := 48) rfl))) (mvT hZ (hw _ (List.mem_of_getElem? (i := 49) rfl))) (mvT hZ (hw _ (List.mem_of_getElem? (i := 50) rfl))) (by decide) (backOf (W := 0) (rmS4_3 l Z a0 hw [] ar ka x0 x1 x2 h0 n0 Z0 V_ar g_ar) hZ (hw _ (List.mem_of_getElem? (i := 50) rfl)) (hw _ (List.mem_of_getElem? (i := 49) rfl)) (by decide) (by decide)) (g := (mkF m 5 #[.val (.ref ar)] [(.int (3 : Int32)), (.int (0 : Int32)), (.int (0 : Int32)), (.ref ar)])) rfl (by rw [hml]; rfl) (argsL := [(.ref ar), (.int (0 : Int32)), (.int (0 : Int32)), (.int (3 : Int32))]) (rest := []) (lenOf pd_3 rfl) rfl (by show 2 * 0 + _ ≤ _; exact Nat.le_of_eq rfl) (hb hby d7_5) (fun _ _ => ⟨rfl, e0, (by decide : 0 + 0 ≤ _), (by decide : 0 + 0 ≤ _)⟩)
  dsimp only [Pt.U, Pt.locs, Pt.cells, Pt.slots] at X2 l2 y2 z2 st2 hQ2
  subst l2 y2 z2
  obtain ⟨y0_2, y1_2, rfl, Nq2, Kp2, Fq2_0⟩ := hQ2
  have N2 := Fr.app N0 Nq2
  obtain ⟨fs, hr, hrun, hended, hW, hsame⟩ := X2.leave (v := none) (fun _ => rfl)
  refine ⟨_, _, pre0 _ ?_, hrun, hended, _, _, rfl, ?_, ⟨_, rfl⟩, hW, hsame.mono (by decide) (by decide)⟩
  · show Steps p.tables e below (s₁.setTop (mkF m 0 #[.val (.ref ar)] [])) _
    refine XS.aloadN X0.here hx rfl (hb hby d7_0) rfl rfl ?_
    show Steps p.tables e below (s₁.setTop (mkF m 1 #[.val (.ref ar)] [(.ref ar)])) _
    refine XS.iconst X0.here hx rfl (hb hby d7_1) ?_
    show Steps p.tables e below (s₁.setTop (mkF m 2 #[.val (.ref ar)] [(.int (0 : Int32)), (.ref ar)])) _
    refine XS.iconst X0.here hx rfl (hb hby d7_2) ?_
    show Steps p.tables e below (s₁.setTop (mkF m 3 #[.val (.ref ar)] [(.int (0 : Int32)), (.int (0 : Int32)), (.ref ar)])) _
    refine XS.aloadN X0.here hx rfl (hb hby d7_3) rfl rfl ?_
    show Steps p.tables e below (s₁.setTop (mkF m 4 #[.val (.ref ar)] [(.ref ar), (.int (0 : Int32)), (.int (0 : Int32)), (.ref ar)])) _
    refine X0.arraylength hx (cell := cl1) (by rw [e0]; exact Ar1.1) (State.isArrayOf_alike hZ.alike Ar1.2.1) (g := (mkF m 4 #[.val (.ref ar)] [(.ref ar), (.int (0 : Int32)), (.int (0 : Int32)), (.ref ar)])) rfl (rest := [(.int (0 : Int32)), (.int (0 : Int32)), (.ref ar)]) rfl (hb hby d7_4) _ ?_
    rw [len_of S1 M1]
    show Steps p.tables e below (s₁.setTop (mkF m 5 #[.val (.ref ar)] [(.int (3 : Int32)), (.int (0 : Int32)), (.int (0 : Int32)), (.ref ar)])) _
    refine st2 _ ?_
    show Steps p.tables e below (T2.setTop (mkF m 8 #[.val (.ref ar)] [])) _
    exact X2.returnOut hx Bd.returns (hb hby d7_8) hr
  · show Q_rmS1_3 Z ar ka x0 x1 x2 h0 n0 _ T2.heap _
    exact ⟨y0_2, y1_2, rfl, N2, ((Keep.refl h0 [ar]).trans Kp2 (allS (Or.inl (List.mem_of_getElem? (i := 0) rfl)) all0)), Fq2_0⟩
def Q_rmS4 (Z : State) (ar : Addr) (ka : ClassId) (x0 : Int64) (x1 : Int64) (x2 : Int64) (x3 : Int64) (h0 : Heap) (n0 : Nat) (v : Option Value) (h : Heap) (L : List Loc) : Prop := ∃ y0 : Int64, ∃ y1 : Int64, ∃ y2 : Int64, v = none ∧ Fr n0 L ∧ Keep h0 h [ar] ∧ Arv Z h ar ka .long (4 : Int32) [(.long y0), (.long y1), (.long y2), (.long (own_mx (own_mx (own_mx x0 x1) x2) x3))] (.long (0 : Int64))
theorem ef_rmS4 (m : MethodId) (ar : Addr) : entryFrame m #[(.ref ar), (.int (0 : Int32)), (.int (4 : Int32))] 7 = mkF m 0 #[.val (.ref ar), .val (.int (0 : Int32)), .val (.int (4 : Int32)), .unset, .unset, .unset, .unset] [] := by first | (simp [entryFrame, mkF, argsToLocals, Value.category]; done) | rfl
set_option maxRecDepth 65536 in
set_option maxHeartbeats 40000000 in
theorem rmS4 (l : Launch) (Z : State) (a0 : Array Value) (hw : ∀ d ∈ tables_1, d.before a0 Z = true) (ws : List Jvm.Cond) (ar : Addr) (ka : ClassId) (x0 : Int64) (x1 : Int64) (x2 : Int64) (x3 : Int64) (h0 : Heap) (n0 : Nat) (Z0 : n0 ≤ h0.size) (V_ar : Arv Z h0 ar ka .long (4 : Int32) [(.long x0), (.long x1), (.long x2), (.long x3)] (.long (0 : Int64))) (g_ar : n0 ≤ ar) :
    MetFree l (⟨"java/util/DualPivotQuicksort", "insertionSort", "([JII)V"⟩ : MethodName) (head1 (Jvm.Cond.code (⟨"java/util/DualPivotQuicksort", "insertionSort", "([JII)V"⟩ : MethodName) jdk_2529_method_15_code 7 none :: ws) ({ frames := 0, cells := 0, slots := 0, locals := 0 } : Room)) (fun a U => a = #[(.ref ar), (.int (0 : Int32)), (.int (4 : Int32))] ∧ Z.Warmed39 U.vm ∧ U.heap = h0) (fun _ _ _ _ _ => True) (fun _ U o U' => ∃ v L, o = .returned v ∧ Q_rmS4 Z ar ka x0 x1 x2 x3 h0 n0 v U'.heap L ∧ FrameEnd U o U' L ({ frames := 0, cells := 0, slots := 0, locals := 0 } : Room).cells ({ frames := 0, cells := 0, slots := 0, locals := 0 } : Room).slots) := by
  refine MetFree.of_bodySF (plainFor_of_name pn_1) hisR ?_
  intro p e s m args below meth c s₁ Bd hml0 hP hK
  obtain ⟨rfl, hZ, hh⟩ := hP
  have hx := Bd.exec
  have hby := Bd.bytes
  have hml : c.maxLocals = 7 := hml0
  have hown : s.vm.findClass "java/util/DualPivotQuicksort" = some m.cls := findClass_of_methodNamed Bd.named
  have hnm := (name_of_methodNamed Bd.named Bd.method).1
  have X0 : Stand p l e ({ frames := 0, cells := 0, slots := 0, locals := 0 } : Room) s m #[(.ref ar), (.int (0 : Int32)), (.int (4 : Int32))] below meth c s₁ [] 0 0 := Stand.of_body Bd
  have e0 : s₁.heap = h0 := by rw [← hh, Bd.state]; rfl
  have N0 := Fr.nil n0
  have pre0 : ∀ t, Steps p.tables e below (s₁.setTop (mkF m 0 #[.val (.ref ar), .val (.int (0 : Int32)), .val (.int (4 : Int32)), .unset, .unset, .unset, .unset] [])) t → Steps p.tables e below (s₁.setTop (entryFrame m #[(.ref ar), (.int (0 : Int32)), (.int (4 : Int32))] 7)) t := fun t k => castTop (ef_rmS4 m ar) k
  obtain ⟨jj_1, y0_1, T1, h1, lo1, X1, e1, N1, Kp1, Fq1_0, st1⟩ := turn4_1 ka x0 x1 x2 x3 ar X0 hx hZ hw hby hml hown e0 N0 Z0  V_ar g_ar
  obtain ⟨jj_2, y0_2, y1_2, T2, h2, lo2, X2, e2, N2, Kp2, Fq2_0, st2⟩ := turn4_2 ka y0_1 (own_mx x0 x1) x2 x3 ar jj_1 x1 X1 hx hZ hw hby hml hown e1 N1 (Nat.le_trans Z0 Kp1.1)  Fq1_0 g_ar
  obtain ⟨jj_3, y0_3, y1_3, y2_3, T3, h3, lo3, X3, e3, N3, Kp3, Fq3_0, st3⟩ := turn4_3 ka y0_2 y1_2 (own_mx (own_mx x0 x1) x2) x3 ar jj_2 x2 X2 hx hZ hw hby hml hown e2 N2 (Nat.le_trans (Nat.le_trans Z0 Kp1.1) Kp2.1)  Fq2_0 g_ar
  obtain ⟨fs, hr, hrun, hended, hW, hsame⟩ := X3.leave (v := none) (fun _ => rfl)
  refine ⟨_, _, pre0 _ ?_, hrun, hended, _, _, rfl, ?_, ⟨_, rfl⟩, hW, hsame.mono (by decide) (by decide)⟩
  · show Steps p.tables e below (s₁.setTop (mkF m 0 #[.val (.ref ar), .val (.int (0 : Int32)), .val (.int (4 : Int32)), .unset, .unset, .unset, .unset] [])) _
    refine XS.iloadN X0.here hx rfl (hb hby d4_0) rfl ?_
    show Steps p.tables e below (s₁.setTop (mkF m 1 #[.val (.ref ar), .val (.int (0 : Int32)), .val (.int (4 : Int32)), .unset, .unset, .unset, .unset] [(.int (0 : Int32))])) _
    refine XS.istore X0.here hx rfl (hb hby d4_1) rfl (l' := #[.val (.ref ar), .val (.int (0 : Int32)), .val (.int (4 : Int32)), .unset, .val (.int (0 : Int32)), .unset, .unset]) rfl ?_
    show Steps p.tables e below (s₁.setTop (mkF m 3 #[.val (.ref ar), .val (.int (0 : Int32)), .val (.int (4 : Int32)), .unset, .val (.int (0 : Int32)), .unset, .unset] [])) _
    refine st1 _ ?_
    show Steps p.tables e below (T1.setTop (mkF m 3 #[.val (.ref ar), .val (.int (0 : Int32)), .val (.int (4 : Int32)), .val (.int jj_1), .val (.int (1 : Int32)), .val (.long x1), .second] [])) _
    refine st2 _ ?_
    show Steps p.tables e below (T2.setTop (mkF m 3 #[.val (.ref ar), .val (.int (0 : Int32)), .val (.int (4 : Int32)), .val (.int jj_2), .val (.int (2 : Int32)), .val (.long x2), .second] [])) _
    refine st3 _ ?_
    show Steps p.tables e below (T3.setTop (mkF m 3 #[.val (.ref ar), .val (.int (0 : Int32)), .val (.int (4 : Int32)), .val (.int jj_3), .val (.int (3 : Int32)), .val (.long x3), .second] [])) _
    refine XS.iinc X3.here hx rfl (hb hby d4_3) rfl (l' := #[.val (.ref ar), .val (.int (0 : Int32)), .val (.int (4 : Int32)), .val (.int jj_3), .val (.int ((3 : Int32) + (1 : Int32))), .val (.long x3), .second]) rfl ?_
    show Steps p.tables e below (T3.setTop (mkF m 6 #[.val (.ref ar), .val (.int (0 : Int32)), .val (.int (4 : Int32)), .val (.int jj_3), .val (.int ((3 : Int32) + (1 : Int32))), .val (.long x3), .second] [])) _
    rw [show ((3 : Int32) + (1 : Int32)) = (4 : Int32) from by decide]
    show Steps p.tables e below (T3.setTop (mkF m 6 #[.val (.ref ar), .val (.int (0 : Int32)), .val (.int (4 : Int32)), .val (.int jj_3), .val (.int (4 : Int32)), .val (.long x3), .second] [])) _
    refine XS.iload X3.here hx rfl (hb hby d4_6) rfl ?_
    show Steps p.tables e below (T3.setTop (mkF m 8 #[.val (.ref ar), .val (.int (0 : Int32)), .val (.int (4 : Int32)), .val (.int jj_3), .val (.int (4 : Int32)), .val (.long x3), .second] [(.int (4 : Int32))])) _
    refine XS.iloadN X3.here hx rfl (hb hby d4_8) rfl ?_
    show Steps p.tables e below (T3.setTop (mkF m 9 #[.val (.ref ar), .val (.int (0 : Int32)), .val (.int (4 : Int32)), .val (.int jj_3), .val (.int (4 : Int32)), .val (.long x3), .second] [(.int (4 : Int32)), (.int (4 : Int32))])) _
    refine XS.icmpYes X3.here hx rfl (pc0 := 9) (pc' := 69) rfl (hb hby d4_9) rfl (flt (by decide : ¬ ((4 : Int32) < (4 : Int32)))).2.1 (by decide) (by decide) ?_
    show Steps p.tables e below (T3.setTop (mkF m 69 #[.val (.ref ar), .val (.int (0 : Int32)), .val (.int (4 : Int32)), .val (.int jj_3), .val (.int (4 : Int32)), .val (.long x3), .second] [])) _
    exact X3.returnOut hx Bd.returns (hb hby d4_69) hr
  · show Q_rmS4 Z ar ka x0 x1 x2 x3 h0 n0 _ T3.heap _
    rw [e3]
    exact ⟨y0_3, y1_3, y2_3, rfl, N3, ((((Keep.refl h0 [ar]).trans Kp1 (allS (Or.inl (List.mem_of_getElem? (i := 0) rfl)) all0)).trans Kp2 (allS (Or.inl (List.mem_of_getElem? (i := 0) rfl)) all0)).trans Kp3 (allS (Or.inl (List.mem_of_getElem? (i := 0) rfl)) all0)), Fq3_0⟩
def Q_rmS5_4 (Z : State) (ar : Addr) (ka : ClassId) (x0 : Int64) (x1 : Int64) (x2 : Int64) (x3 : Int64) (h0 : Heap) (n0 : Nat) (v : Option Value) (h : Heap) (L : List Loc) : Prop := ∃ y0 : Int64, ∃ y1 : Int64, ∃ y2 : Int64, v = none ∧ Fr n0 L ∧ Keep h0 h [ar] ∧ Arv Z h ar ka .long (4 : Int32) [(.long y0), (.long y1), (.long y2), (.long (own_mx (own_mx (own_mx x0 x1) x2) x3))] (.long (0 : Int64))
theorem ef_rmS5_4 (m : MethodId) (ar : Addr) : entryFrame m #[.null, (.ref ar), (.int (0 : Int32)), (.int (0 : Int32)), (.int (4 : Int32))] 25 = mkF m 0 #[.val .null, .val (.ref ar), .val (.int (0 : Int32)), .val (.int (0 : Int32)), .val (.int (4 : Int32)), .unset, .unset, .unset, .unset, .unset, .unset, .unset, .unset, .unset, .unset, .unset, .unset, .unset, .unset, .unset, .unset, .unset, .unset, .unset, .unset] [] := by first | (simp [entryFrame, mkF, argsToLocals, Value.category]; done) | rfl
set_option maxRecDepth 65536 in
set_option maxHeartbeats 40000000 in
theorem rmS5_4 (l : Launch) (Z : State) (a0 : Array Value) (hw : ∀ d ∈ tables_1, d.before a0 Z = true) (ws : List Jvm.Cond) (ar : Addr) (ka : ClassId) (x0 : Int64) (x1 : Int64) (x2 : Int64) (x3 : Int64) (h0 : Heap) (n0 : Nat) (Z0 : n0 ≤ h0.size) (V_ar : Arv Z h0 ar ka .long (4 : Int32) [(.long x0), (.long x1), (.long x2), (.long x3)] (.long (0 : Int64))) (g_ar : n0 ≤ ar) :
    MetFree l (⟨"java/util/DualPivotQuicksort", "sort", "(Ljava/util/DualPivotQuicksort$Sorter;[JIII)V"⟩ : MethodName) (head1 (Jvm.Cond.code (⟨"java/util/DualPivotQuicksort", "sort", "(Ljava/util/DualPivotQuicksort$Sorter;[JIII)V"⟩ : MethodName) jdk_2529_method_13_code 25 none :: ws) ({ frames := 1, cells := 0, slots := 0, locals := 18 } : Room)) (fun a U => a = #[.null, (.ref ar), (.int (0 : Int32)), (.int (0 : Int32)), (.int (4 : Int32))] ∧ Z.Warmed39 U.vm ∧ U.heap = h0) (fun _ _ _ _ _ => True) (fun _ U o U' => ∃ v L, o = .returned v ∧ Q_rmS5_4 Z ar ka x0 x1 x2 x3 h0 n0 v U'.heap L ∧ FrameEnd U o U' L ({ frames := 1, cells := 0, slots := 0, locals := 18 } : Room).cells ({ frames := 1, cells := 0, slots := 0, locals := 18 } : Room).slots) := by
  refine MetFree.of_bodySF (plainFor_of_name pn_1) hisR ?_
  intro p e s m args below meth c s₁ Bd hml0 hP hK
  obtain ⟨rfl, hZ, hh⟩ := hP
  have hx := Bd.exec
  have hby := Bd.bytes
  have hml : c.maxLocals = 25 := hml0
  have hown : s.vm.findClass "java/util/DualPivotQuicksort" = some m.cls := findClass_of_methodNamed Bd.named
  have hnm := (name_of_methodNamed Bd.named Bd.method).1
  have X0 : Stand p l e ({ frames := 1, cells := 0, slots := 0, locals := 18 } : Room) s m #[.null, (.ref ar), (.int (0 : Int32)), (.int (0 : Int32)), (.int (4 : Int32))] below meth c s₁ [] 0 0 := Stand.of_body Bd
  have e0 : s₁.heap = h0 := by rw [← hh, Bd.state]; rfl
  have N0 := Fr.nil n0
  have pre0 : ∀ t, Steps p.tables e below (s₁.setTop (mkF m 0 #[.val .null, .val (.ref ar), .val (.int (0 : Int32)), .val (.int (0 : Int32)), .val (.int (4 : Int32)), .unset, .unset, .unset, .unset, .unset, .unset, .unset, .unset, .unset, .unset, .unset, .unset, .unset, .unset, .unset, .unset, .unset, .unset, .unset, .unset] [])) t → Steps p.tables e below (s₁.setTop (entryFrame m #[.null, (.ref ar), (.int (0 : Int32)), (.int (0 : Int32)), (.int (4 : Int32))] 25)) t := fun t k => castTop (ef_rmS5_4 m ar) k
  obtain ⟨_, _, ⟨T1, L1, k1, n1⟩, -, X1, ⟨Lc1, hQ1, l1, y1, z1⟩, st1⟩ := Jvm.LawKit.callS X0 hx (y := (⟨"java/util/DualPivotQuicksort", "insertionSort", "([JII)V"⟩ : MethodName)) hown (mvT hZ (hw _ (List.mem_of_getElem? (i := 54) rfl))) (mvT hZ (hw _ (List.mem_of_getElem? (i := 55) rfl))) (mvT hZ (hw _ (List.mem_of_getElem? (i := 49) rfl))) (mvT hZ (hw _ (List.mem_of_getElem? (i := 56) rfl))) (by decide) (backOf (W := 0) (rmS4 l Z a0 hw [] ar ka x0 x1 x2 x3 h0 n0 Z0 V_ar g_ar) hZ (hw _ (List.mem_of_getElem? (i := 56) rfl)) (hw _ (List.mem_of_getElem? (i := 49) rfl)) (by decide) (by decide)) (g := (mkF m 57 #[.val .null, .val (.ref ar), .val (.int (0 : Int32)), .val (.int (0 : Int32)), .val (.int (4 : Int32)), .val (.int (3 : Int32)), .val (.int (4 : Int32)), .unset, .unset, .unset, .unset, .unset, .unset, .unset, .unset, .unset, .unset, .unset, .unset, .unset, .unset, .unset, .unset, .unset, .unset] [(.int (4 : Int32)), (.int (0 : Int32)), (.ref ar)])) rfl (by rw [hml]; rfl) (argsL := [(.ref ar), (.int (0 : Int32)), (.int (4 : Int32))]) (rest := []) (lenOf pd_1 rfl) rfl (by show 2 * 0 + _ ≤ _; exact Nat.le_of_eq rfl) (hb hby d5_57) (fun _ _ => ⟨rfl, e0, (by decide : 0 + 0 ≤ _), (by decide : 0 + 0 ≤ _)⟩)
  dsimp only [Pt.U, Pt.locs, Pt.cells, Pt.slots] at X1 l1 y1 z1 st1 hQ1
  subst l1 y1 z1
  obtain ⟨y0_1, y1_1, y2_1, rfl, Nq1, Kp1, Fq1_0⟩ := hQ1
  have N1 := Fr.app N0 Nq1
  obtain ⟨fs, hr, hrun, hended, hW, hsame⟩ := X1.leave (v := none) (fun _ => rfl)
  refine ⟨_, _, pre0 _ ?_, hrun, hended, _, _, rfl, ?_, ⟨_, rfl⟩, hW, hsame.mono (by decide) (by decide)⟩
  · show Steps p.tables e below (s₁.setTop (mkF m 0 #[.val .null, .val (.ref ar), .val (.int (0 : Int32)), .val (.int (0 : Int32)), .val (.int (4 : Int32)), .unset, .unset, .unset, .unset, .unset, .unset, .unset, .unset, .unset, .unset, .unset, .unset, .unset, .unset, .unset, .unset, .unset, .unset, .unset, .unset] [])) _
    refine XS.iload X0.here hx rfl (hb hby d5_0) rfl ?_
    show Steps p.tables e below (s₁.setTop (mkF m 2 #[.val .null, .val (.ref ar), .val (.int (0 : Int32)), .val (.int (0 : Int32)), .val (.int (4 : Int32)), .unset, .unset, .unset, .unset, .unset, .unset, .unset, .unset, .unset, .unset, .unset, .unset, .unset, .unset, .unset, .unset, .unset, .unset, .unset, .unset] [(.int (4 : Int32))])) _
    refine XS.iconst X0.here hx rfl (hb hby d5_2) ?_
    show Steps p.tables e below (s₁.setTop (mkF m 3 #[.val .null, .val (.ref ar), .val (.int (0 : Int32)), .val (.int (0 : Int32)), .val (.int (4 : Int32)), .unset, .unset, .unset, .unset, .unset, .unset, .unset, .unset, .unset, .unset, .unset, .unset, .unset, .unset, .unset, .unset, .unset, .unset, .unset, .unset] [(.int (1 : Int32)), (.int (4 : Int32))])) _
    refine XS.isub X0.here hx rfl (hb hby d5_3) rfl ?_
    show Steps p.tables e below (s₁.setTop (mkF m 4 #[.val .null, .val (.ref ar), .val (.int (0 : Int32)), .val (.int (0 : Int32)), .val (.int (4 : Int32)), .unset, .unset, .unset, .unset, .unset, .unset, .unset, .unset, .unset, .unset, .unset, .unset, .unset, .unset, .unset, .unset, .unset, .unset, .unset, .unset] [(.int ((4 : Int32) - (1 : Int32)))])) _
    rw [show ((4 : Int32) - (1 : Int32)) = (3 : Int32) from by decide]
    show Steps p.tables e below (s₁.setTop (mkF m 4 #[.val .null, .val (.ref ar), .val (.int (0 : Int32)), .val (.int (0 : Int32)), .val (.int (4 : Int32)), .unset, .unset, .unset, .unset, .unset, .unset, .unset, .unset, .unset, .unset, .unset, .unset, .unset, .unset, .unset, .unset, .unset, .unset, .unset, .unset] [(.int (3 : Int32))])) _
    refine XS.istore X0.here hx rfl (hb hby d5_4) rfl (l' := #[.val .null, .val (.ref ar), .val (.int (0 : Int32)), .val (.int (0 : Int32)), .val (.int (4 : Int32)), .val (.int (3 : Int32)), .unset, .unset, .unset, .unset, .unset, .unset, .unset, .unset, .unset, .unset, .unset, .unset, .unset, .unset, .unset, .unset, .unset, .unset, .unset]) rfl ?_
    show Steps p.tables e below (s₁.setTop (mkF m 6 #[.val .null, .val (.ref ar), .val (.int (0 : Int32)), .val (.int (0 : Int32)), .val (.int (4 : Int32)), .val (.int (3 : Int32)), .unset, .unset, .unset, .unset, .unset, .unset, .unset, .unset, .unset, .unset, .unset, .unset, .unset, .unset, .unset, .unset, .unset, .unset, .unset] [])) _
    refine XS.iload X0.here hx rfl (hb hby d5_6) rfl ?_
    show Steps p.tables e below (s₁.setTop (mkF m 8 #[.val .null, .val (.ref ar), .val (.int (0 : Int32)), .val (.int (0 : Int32)), .val (.int (4 : Int32)), .val (.int (3 : Int32)), .unset, .unset, .unset, .unset, .unset, .unset, .unset, .unset, .unset, .unset, .unset, .unset, .unset, .unset, .unset, .unset, .unset, .unset, .unset] [(.int (4 : Int32))])) _
    refine XS.iloadN X0.here hx rfl (hb hby d5_8) rfl ?_
    show Steps p.tables e below (s₁.setTop (mkF m 9 #[.val .null, .val (.ref ar), .val (.int (0 : Int32)), .val (.int (0 : Int32)), .val (.int (4 : Int32)), .val (.int (3 : Int32)), .unset, .unset, .unset, .unset, .unset, .unset, .unset, .unset, .unset, .unset, .unset, .unset, .unset, .unset, .unset, .unset, .unset, .unset, .unset] [(.int (0 : Int32)), (.int (4 : Int32))])) _
    refine XS.isub X0.here hx rfl (hb hby d5_9) rfl ?_
    show Steps p.tables e below (s₁.setTop (mkF m 10 #[.val .null, .val (.ref ar), .val (.int (0 : Int32)), .val (.int (0 : Int32)), .val (.int (4 : Int32)), .val (.int (3 : Int32)), .unset, .unset, .unset, .unset, .unset, .unset, .unset, .unset, .unset, .unset, .unset, .unset, .unset, .unset, .unset, .unset, .unset, .unset, .unset] [(.int ((4 : Int32) - (0 : Int32)))])) _
    rw [show ((4 : Int32) - (0 : Int32)) = (4 : Int32) from by decide]
    show Steps p.tables e below (s₁.setTop (mkF m 10 #[.val .null, .val (.ref ar), .val (.int (0 : Int32)), .val (.int (0 : Int32)), .val (.int (4 : Int32)), .val (.int (3 : Int32)), .unset, .unset, .unset, .unset, .unset, .unset, .unset, .unset, .unset, .unset, .unset, .unset, .unset, .unset, .unset, .unset, .unset, .unset, .unset] [(.int (4 : Int32))])) _
    refine XS.istore X0.here hx rfl (hb hby d5_10) rfl (l' := #[.val .null, .val (.ref ar), .val (.int (0 : Int32)), .val (.int (0 : Int32)), .val (.int (4 : Int32)), .val (.int (3 : Int32)), .val (.int (4 : Int32)), .unset, .unset, .unset, .unset, .unset, .unset, .unset, .unset, .unset, .unset, .unset, .unset, .unset, .unset, .unset, .unset, .unset, .unset]) rfl ?_
    show Steps p.tables e below (s₁.setTop (mkF m 12 #[.val .null, .val (.ref ar), .val (.int (0 : Int32)), .val (.int (0 : Int32)), .val (.int (4 : Int32)), .val (.int (3 : Int32)), .val (.int (4 : Int32)), .unset, .unset, .unset, .unset, .unset, .unset, .unset, .unset, .unset, .unset, .unset, .unset, .unset, .unset, .unset, .unset, .unset, .unset] [])) _
    refine XS.iload X0.here hx rfl (hb hby d5_12) rfl ?_
    show Steps p.tables e below (s₁.setTop (mkF m 14 #[.val .null, .val (.ref ar), .val (.int (0 : Int32)), .val (.int (0 : Int32)), .val (.int (4 : Int32)), .val (.int (3 : Int32)), .val (.int (4 : Int32)), .unset, .unset, .unset, .unset, .unset, .unset, .unset, .unset, .unset, .unset, .unset, .unset, .unset, .unset, .unset, .unset, .unset, .unset] [(.int (4 : Int32))])) _
    refine XS.bipush X0.here hx rfl (hb hby d5_14) ?_
    show Steps p.tables e below (s₁.setTop (mkF m 16 #[.val .null, .val (.ref ar), .val (.int (0 : Int32)), .val (.int (0 : Int32)), .val (.int (4 : Int32)), .val (.int (3 : Int32)), .val (.int (4 : Int32)), .unset, .unset, .unset, .unset, .unset, .unset, .unset, .unset, .unset, .unset, .unset, .unset, .unset, .unset, .unset, .unset, .unset, .unset] [(.int (65 : Int32)), (.int (4 : Int32))])) _
    refine XS.iloadN X0.here hx rfl (hb hby d5_16) rfl ?_
    show Steps p.tables e below (s₁.setTop (mkF m 17 #[.val .null, .val (.ref ar), .val (.int (0 : Int32)), .val (.int (0 : Int32)), .val (.int (4 : Int32)), .val (.int (3 : Int32)), .val (.int (4 : Int32)), .unset, .unset, .unset, .unset, .unset, .unset, .unset, .unset, .unset, .unset, .unset, .unset, .unset, .unset, .unset, .unset, .unset, .unset] [(.int (0 : Int32)), (.int (65 : Int32)), (.int (4 : Int32))])) _
    refine XS.iadd X0.here hx rfl (hb hby d5_17) rfl ?_
    show Steps p.tables e below (s₁.setTop (mkF m 18 #[.val .null, .val (.ref ar), .val (.int (0 : Int32)), .val (.int (0 : Int32)), .val (.int (4 : Int32)), .val (.int (3 : Int32)), .val (.int (4 : Int32)), .unset, .unset, .unset, .unset, .unset, .unset, .unset, .unset, .unset, .unset, .unset, .unset, .unset, .unset, .unset, .unset, .unset, .unset] [(.int ((65 : Int32) + (0 : Int32))), (.int (4 : Int32))])) _
    rw [show ((65 : Int32) + (0 : Int32)) = (65 : Int32) from by decide]
    show Steps p.tables e below (s₁.setTop (mkF m 18 #[.val .null, .val (.ref ar), .val (.int (0 : Int32)), .val (.int (0 : Int32)), .val (.int (4 : Int32)), .val (.int (3 : Int32)), .val (.int (4 : Int32)), .unset, .unset, .unset, .unset, .unset, .unset, .unset, .unset, .unset, .unset, .unset, .unset, .unset, .unset, .unset, .unset, .unset, .unset] [(.int (65 : Int32)), (.int (4 : Int32))])) _
    refine XS.icmpNo X0.here hx rfl (hb hby d5_18) rfl (tlt (by decide : (4 : Int32) < (65 : Int32))).2.1 ?_
    show Steps p.tables e below (s₁.setTop (mkF m 21 #[.val .null, .val (.ref ar), .val (.int (0 : Int32)), .val (.int (0 : Int32)), .val (.int (4 : Int32)), .val (.int (3 : Int32)), .val (.int (4 : Int32)), .unset, .unset, .unset, .unset, .unset, .unset, .unset, .unset, .unset, .unset, .unset, .unset, .unset, .unset, .unset, .unset, .unset, .unset] [])) _
    refine XS.iloadN X0.here hx rfl (hb hby d5_21) rfl ?_
    show Steps p.tables e below (s₁.setTop (mkF m 22 #[.val .null, .val (.ref ar), .val (.int (0 : Int32)), .val (.int (0 : Int32)), .val (.int (4 : Int32)), .val (.int (3 : Int32)), .val (.int (4 : Int32)), .unset, .unset, .unset, .unset, .unset, .unset, .unset, .unset, .unset, .unset, .unset, .unset, .unset, .unset, .unset, .unset, .unset, .unset] [(.int (0 : Int32))])) _
    refine XS.iconst X0.here hx rfl (hb hby d5_22) ?_
    show Steps p.tables e below (s₁.setTop (mkF m 23 #[.val .null, .val (.ref ar), .val (.int (0 : Int32)), .val (.int (0 : Int32)), .val (.int (4 : Int32)), .val (.int (3 : Int32)), .val (.int (4 : Int32)), .unset, .unset, .unset, .unset, .unset, .unset, .unset, .unset, .unset, .unset, .unset, .unset, .unset, .unset, .unset, .unset, .unset, .unset] [(.int (1 : Int32)), (.int (0 : Int32))])) _
    refine XS.iand X0.here hx rfl (hb hby d5_23) rfl ?_
    show Steps p.tables e below (s₁.setTop (mkF m 24 #[.val .null, .val (.ref ar), .val (.int (0 : Int32)), .val (.int (0 : Int32)), .val (.int (4 : Int32)), .val (.int (3 : Int32)), .val (.int (4 : Int32)), .unset, .unset, .unset, .unset, .unset, .unset, .unset, .unset, .unset, .unset, .unset, .unset, .unset, .unset, .unset, .unset, .unset, .unset] [(.int ((0 : Int32) &&& (1 : Int32)))])) _
    rw [show ((0 : Int32) &&& (1 : Int32)) = (0 : Int32) from by decide]
    show Steps p.tables e below (s₁.setTop (mkF m 24 #[.val .null, .val (.ref ar), .val (.int (0 : Int32)), .val (.int (0 : Int32)), .val (.int (4 : Int32)), .val (.int (3 : Int32)), .val (.int (4 : Int32)), .unset, .unset, .unset, .unset, .unset, .unset, .unset, .unset, .unset, .unset, .unset, .unset, .unset, .unset, .unset, .unset, .unset, .unset] [(.int (0 : Int32))])) _
    refine XS.ifYes X0.here hx rfl (pc0 := 24) (pc' := 46) rfl (hb hby d5_24) rfl ((if0 _ _).trans (flt (by decide : ¬ ((0 : Int32) < (0 : Int32)))).2.2.2) (by decide) (by decide) ?_
    show Steps p.tables e below (s₁.setTop (mkF m 46 #[.val .null, .val (.ref ar), .val (.int (0 : Int32)), .val (.int (0 : Int32)), .val (.int (4 : Int32)), .val (.int (3 : Int32)), .val (.int (4 : Int32)), .unset, .unset, .unset, .unset, .unset, .unset, .unset, .unset, .unset, .unset, .unset, .unset, .unset, .unset, .unset, .unset, .unset, .unset] [])) _
    refine XS.iload X0.here hx rfl (hb hby d5_46) rfl ?_
    show Steps p.tables e below (s₁.setTop (mkF m 48 #[.val .null, .val (.ref ar), .val (.int (0 : Int32)), .val (.int (0 : Int32)), .val (.int (4 : Int32)), .val (.int (3 : Int32)), .val (.int (4 : Int32)), .unset, .unset, .unset, .unset, .unset, .unset, .unset, .unset, .unset, .unset, .unset, .unset, .unset, .unset, .unset, .unset, .unset, .unset] [(.int (4 : Int32))])) _
    refine XS.bipush X0.here hx rfl (hb hby d5_48) ?_
    show Steps p.tables e below (s₁.setTop (mkF m 50 #[.val .null, .val (.ref ar), .val (.int (0 : Int32)), .val (.int (0 : Int32)), .val (.int (4 : Int32)), .val (.int (3 : Int32)), .val (.int (4 : Int32)), .unset, .unset, .unset, .unset, .unset, .unset, .unset, .unset, .unset, .unset, .unset, .unset, .unset, .unset, .unset, .unset, .unset, .unset] [(.int (44 : Int32)), (.int (4 : Int32))])) _
    refine XS.icmpNo X0.here hx rfl (hb hby d5_50) rfl (tlt (by decide : (4 : Int32) < (44 : Int32))).2.1 ?_
    show Steps p.tables e below (s₁.setTop (mkF m 53 #[.val .null, .val (.ref ar), .val (.int (0 : Int32)), .val (.int (0 : Int32)), .val (.int (4 : Int32)), .val (.int (3 : Int32)), .val (.int (4 : Int32)), .unset, .unset, .unset, .unset, .unset, .unset, .unset, .unset, .unset, .unset, .unset, .unset, .unset, .unset, .unset, .unset, .unset, .unset] [])) _
    refine XS.aloadN X0.here hx rfl (hb hby d5_53) rfl rfl ?_
    show Steps p.tables e below (s₁.setTop (mkF m 54 #[.val .null, .val (.ref ar), .val (.int (0 : Int32)), .val (.int (0 : Int32)), .val (.int (4 : Int32)), .val (.int (3 : Int32)), .val (.int (4 : Int32)), .unset, .unset, .unset, .unset, .unset, .unset, .unset, .unset, .unset, .unset, .unset, .unset, .unset, .unset, .unset, .unset, .unset, .unset] [(.ref ar)])) _
    refine XS.iloadN X0.here hx rfl (hb hby d5_54) rfl ?_
    show Steps p.tables e below (s₁.setTop (mkF m 55 #[.val .null, .val (.ref ar), .val (.int (0 : Int32)), .val (.int (0 : Int32)), .val (.int (4 : Int32)), .val (.int (3 : Int32)), .val (.int (4 : Int32)), .unset, .unset, .unset, .unset, .unset, .unset, .unset, .unset, .unset, .unset, .unset, .unset, .unset, .unset, .unset, .unset, .unset, .unset] [(.int (0 : Int32)), (.ref ar)])) _
    refine XS.iload X0.here hx rfl (hb hby d5_55) rfl ?_
    show Steps p.tables e below (s₁.setTop (mkF m 57 #[.val .null, .val (.ref ar), .val (.int (0 : Int32)), .val (.int (0 : Int32)), .val (.int (4 : Int32)), .val (.int (3 : Int32)), .val (.int (4 : Int32)), .unset, .unset, .unset, .unset, .unset, .unset, .unset, .unset, .unset, .unset, .unset, .unset, .unset, .unset, .unset, .unset, .unset, .unset] [(.int (4 : Int32)), (.int (0 : Int32)), (.ref ar)])) _
    refine st1 _ ?_
    show Steps p.tables e below (T1.setTop (mkF m 60 #[.val .null, .val (.ref ar), .val (.int (0 : Int32)), .val (.int (0 : Int32)), .val (.int (4 : Int32)), .val (.int (3 : Int32)), .val (.int (4 : Int32)), .unset, .unset, .unset, .unset, .unset, .unset, .unset, .unset, .unset, .unset, .unset, .unset, .unset, .unset, .unset, .unset, .unset, .unset] [])) _
    exact X1.returnOut hx Bd.returns (hb hby d5_60) hr
  · show Q_rmS5_4 Z ar ka x0 x1 x2 x3 h0 n0 _ T1.heap _
    exact ⟨y0_1, y1_1, y2_1, rfl, N1, ((Keep.refl h0 [ar]).trans Kp1 (allS (Or.inl (List.mem_of_getElem? (i := 0) rfl)) all0)), Fq1_0⟩
def Q_rmS4_4 (Z : State) (ar : Addr) (ka : ClassId) (x0 : Int64) (x1 : Int64) (x2 : Int64) (x3 : Int64) (h0 : Heap) (n0 : Nat) (v : Option Value) (h : Heap) (L : List Loc) : Prop := ∃ y0 : Int64, ∃ y1 : Int64, ∃ y2 : Int64, v = none ∧ Fr n0 L ∧ Keep h0 h [ar] ∧ Arv Z h ar ka .long (4 : Int32) [(.long y0), (.long y1), (.long y2), (.long (own_mx (own_mx (own_mx x0 x1) x2) x3))] (.long (0 : Int64))
theorem ef_rmS4_4 (m : MethodId) (ar : Addr) : entryFrame m #[(.ref ar), (.int (0 : Int32)), (.int (0 : Int32)), (.int (4 : Int32))] 7 = mkF m 0 #[.val (.ref ar), .val (.int (0 : Int32)), .val (.int (0 : Int32)), .val (.int (4 : Int32)), .unset, .unset, .unset] [] := by first | (simp [entryFrame, mkF, argsToLocals, Value.category]; done) | rfl
set_option maxRecDepth 65536 in
set_option maxHeartbeats 40000000 in
theorem rmS4_4 (l : Launch) (Z : State) (a0 : Array Value) (hw : ∀ d ∈ tables_1, d.before a0 Z = true) (ws : List Jvm.Cond) (ar : Addr) (ka : ClassId) (x0 : Int64) (x1 : Int64) (x2 : Int64) (x3 : Int64) (h0 : Heap) (n0 : Nat) (Z0 : n0 ≤ h0.size) (V_ar : Arv Z h0 ar ka .long (4 : Int32) [(.long x0), (.long x1), (.long x2), (.long x3)] (.long (0 : Int64))) (g_ar : n0 ≤ ar) :
    MetFree l (⟨"java/util/DualPivotQuicksort", "sort", "([JIII)V"⟩ : MethodName) (head1 (Jvm.Cond.code (⟨"java/util/DualPivotQuicksort", "sort", "([JIII)V"⟩ : MethodName) jdk_2529_method_12_code 7 none :: ws) ({ frames := 2, cells := 0, slots := 0, locals := 54 } : Room)) (fun a U => a = #[(.ref ar), (.int (0 : Int32)), (.int (0 : Int32)), (.int (4 : Int32))] ∧ Z.Warmed39 U.vm ∧ U.heap = h0) (fun _ _ _ _ _ => True) (fun _ U o U' => ∃ v L, o = .returned v ∧ Q_rmS4_4 Z ar ka x0 x1 x2 x3 h0 n0 v U'.heap L ∧ FrameEnd U o U' L ({ frames := 2, cells := 0, slots := 0, locals := 54 } : Room).cells ({ frames := 2, cells := 0, slots := 0, locals := 54 } : Room).slots) := by
  refine MetFree.of_bodySF (plainFor_of_name pn_1) hisR ?_
  intro p e s m args below meth c s₁ Bd hml0 hP hK
  obtain ⟨rfl, hZ, hh⟩ := hP
  have hx := Bd.exec
  have hby := Bd.bytes
  have hml : c.maxLocals = 7 := hml0
  have hown : s.vm.findClass "java/util/DualPivotQuicksort" = some m.cls := findClass_of_methodNamed Bd.named
  have hnm := (name_of_methodNamed Bd.named Bd.method).1
  have X0 : Stand p l e ({ frames := 2, cells := 0, slots := 0, locals := 54 } : Room) s m #[(.ref ar), (.int (0 : Int32)), (.int (0 : Int32)), (.int (4 : Int32))] below meth c s₁ [] 0 0 := Stand.of_body Bd
  have e0 : s₁.heap = h0 := by rw [← hh, Bd.state]; rfl
  have N0 := Fr.nil n0
  have pre0 : ∀ t, Steps p.tables e below (s₁.setTop (mkF m 0 #[.val (.ref ar), .val (.int (0 : Int32)), .val (.int (0 : Int32)), .val (.int (4 : Int32)), .unset, .unset, .unset] [])) t → Steps p.tables e below (s₁.setTop (entryFrame m #[(.ref ar), (.int (0 : Int32)), (.int (0 : Int32)), (.int (4 : Int32))] 7)) t := fun t k => castTop (ef_rmS4_4 m ar) k
  obtain ⟨_, _, ⟨T1, L1, k1, n1⟩, -, X1, ⟨Lc1, hQ1, l1, y1, z1⟩, st1⟩ := Jvm.LawKit.callS X0 hx (y := (⟨"java/util/DualPivotQuicksort", "sort", "(Ljava/util/DualPivotQuicksort$Sorter;[JIII)V"⟩ : MethodName)) hown (mvT hZ (hw _ (List.mem_of_getElem? (i := 51) rfl))) (mvT hZ (hw _ (List.mem_of_getElem? (i := 52) rfl))) (mvT hZ (hw _ (List.mem_of_getElem? (i := 49) rfl))) (mvT hZ (hw _ (List.mem_of_getElem? (i := 53) rfl))) (by decide) (backOf (W := 0) (rmS5_4 l Z a0 hw [] ar ka x0 x1 x2 x3 h0 n0 Z0 V_ar g_ar) hZ (hw _ (List.mem_of_getElem? (i := 53) rfl)) (hw _ (List.mem_of_getElem? (i := 49) rfl)) (by decide) (by decide)) (g := (mkF m 73 #[.val (.ref ar), .val (.int (0 : Int32)), .val (.int (0 : Int32)), .val (.int (4 : Int32)), .val (.int (4 : Int32)), .unset, .unset] [(.int (4 : Int32)), (.int (0 : Int32)), (.int (0 : Int32)), (.ref ar), .null])) rfl (by rw [hml]; rfl) (argsL := [.null, (.ref ar), (.int (0 : Int32)), (.int (0 : Int32)), (.int (4 : Int32))]) (rest := []) (lenOf pd_2 rfl) rfl (by show 2 * 0 + _ ≤ _; exact Nat.le_of_eq rfl) (hb hby d6_73) (fun _ _ => ⟨rfl, e0, (by decide : 0 + 0 ≤ _), (by decide : 0 + 0 ≤ _)⟩)
  dsimp only [Pt.U, Pt.locs, Pt.cells, Pt.slots] at X1 l1 y1 z1 st1 hQ1
  subst l1 y1 z1
  obtain ⟨y0_1, y1_1, y2_1, rfl, Nq1, Kp1, Fq1_0⟩ := hQ1
  have N1 := Fr.app N0 Nq1
  obtain ⟨fs, hr, hrun, hended, hW, hsame⟩ := X1.leave (v := none) (fun _ => rfl)
  refine ⟨_, _, pre0 _ ?_, hrun, hended, _, _, rfl, ?_, ⟨_, rfl⟩, hW, hsame.mono (by decide) (by decide)⟩
  · show Steps p.tables e below (s₁.setTop (mkF m 0 #[.val (.ref ar), .val (.int (0 : Int32)), .val (.int (0 : Int32)), .val (.int (4 : Int32)), .unset, .unset, .unset] [])) _
    refine XS.iloadN X0.here hx rfl (hb hby d6_0) rfl ?_
    show Steps p.tables e below (s₁.setTop (mkF m 1 #[.val (.ref ar), .val (.int (0 : Int32)), .val (.int (0 : Int32)), .val (.int (4 : Int32)), .unset, .unset, .unset] [(.int (4 : Int32))])) _
    refine XS.iloadN X0.here hx rfl (hb hby d6_1) rfl ?_
    show Steps p.tables e below (s₁.setTop (mkF m 2 #[.val (.ref ar), .val (.int (0 : Int32)), .val (.int (0 : Int32)), .val (.int (4 : Int32)), .unset, .unset, .unset] [(.int (0 : Int32)), (.int (4 : Int32))])) _
    refine XS.isub X0.here hx rfl (hb hby d6_2) rfl ?_
    show Steps p.tables e below (s₁.setTop (mkF m 3 #[.val (.ref ar), .val (.int (0 : Int32)), .val (.int (0 : Int32)), .val (.int (4 : Int32)), .unset, .unset, .unset] [(.int ((4 : Int32) - (0 : Int32)))])) _
    rw [show ((4 : Int32) - (0 : Int32)) = (4 : Int32) from by decide]
    show Steps p.tables e below (s₁.setTop (mkF m 3 #[.val (.ref ar), .val (.int (0 : Int32)), .val (.int (0 : Int32)), .val (.int (4 : Int32)), .unset, .unset, .unset] [(.int (4 : Int32))])) _
    refine XS.istore X0.here hx rfl (hb hby d6_3) rfl (l' := #[.val (.ref ar), .val (.int (0 : Int32)), .val (.int (0 : Int32)), .val (.int (4 : Int32)), .val (.int (4 : Int32)), .unset, .unset]) rfl ?_
    show Steps p.tables e below (s₁.setTop (mkF m 5 #[.val (.ref ar), .val (.int (0 : Int32)), .val (.int (0 : Int32)), .val (.int (4 : Int32)), .val (.int (4 : Int32)), .unset, .unset] [])) _
    refine XS.iloadN X0.here hx rfl (hb hby d6_5) rfl ?_
    show Steps p.tables e below (s₁.setTop (mkF m 6 #[.val (.ref ar), .val (.int (0 : Int32)), .val (.int (0 : Int32)), .val (.int (4 : Int32)), .val (.int (4 : Int32)), .unset, .unset] [(.int (0 : Int32))])) _
    refine XS.iconst X0.here hx rfl (hb hby d6_6) ?_
    show Steps p.tables e below (s₁.setTop (mkF m 7 #[.val (.ref ar), .val (.int (0 : Int32)), .val (.int (0 : Int32)), .val (.int (4 : Int32)), .val (.int (4 : Int32)), .unset, .unset] [(.int (1 : Int32)), (.int (0 : Int32))])) _
    refine XS.icmpYes X0.here hx rfl (pc0 := 7) (pc' := 68) rfl (hb hby d6_7) rfl (flt (by decide : ¬ ((1 : Int32) < (0 : Int32)))).2.2.2 (by decide) (by decide) ?_
    show Steps p.tables e below (s₁.setTop (mkF m 68 #[.val (.ref ar), .val (.int (0 : Int32)), .val (.int (0 : Int32)), .val (.int (4 : Int32)), .val (.int (4 : Int32)), .unset, .unset] [])) _
    refine XS.aconstNull X0.here hx rfl (hb hby d6_68) ?_
    show Steps p.tables e below (s₁.setTop (mkF m 69 #[.val (.ref ar), .val (.int (0 : Int32)), .val (.int (0 : Int32)), .val (.int (4 : Int32)), .val (.int (4 : Int32)), .unset, .unset] [.null])) _
    refine XS.aloadN X0.here hx rfl (hb hby d6_69) rfl rfl ?_
    show Steps p.tables e below (s₁.setTop (mkF m 70 #[.val (.ref ar), .val (.int (0 : Int32)), .val (.int (0 : Int32)), .val (.int (4 : Int32)), .val (.int (4 : Int32)), .unset, .unset] [(.ref ar), .null])) _
    refine XS.iconst X0.here hx rfl (hb hby d6_70) ?_
    show Steps p.tables e below (s₁.setTop (mkF m 71 #[.val (.ref ar), .val (.int (0 : Int32)), .val (.int (0 : Int32)), .val (.int (4 : Int32)), .val (.int (4 : Int32)), .unset, .unset] [(.int (0 : Int32)), (.ref ar), .null])) _
    refine XS.iloadN X0.here hx rfl (hb hby d6_71) rfl ?_
    show Steps p.tables e below (s₁.setTop (mkF m 72 #[.val (.ref ar), .val (.int (0 : Int32)), .val (.int (0 : Int32)), .val (.int (4 : Int32)), .val (.int (4 : Int32)), .unset, .unset] [(.int (0 : Int32)), (.int (0 : Int32)), (.ref ar), .null])) _
    refine XS.iloadN X0.here hx rfl (hb hby d6_72) rfl ?_
    show Steps p.tables e below (s₁.setTop (mkF m 73 #[.val (.ref ar), .val (.int (0 : Int32)), .val (.int (0 : Int32)), .val (.int (4 : Int32)), .val (.int (4 : Int32)), .unset, .unset] [(.int (4 : Int32)), (.int (0 : Int32)), (.int (0 : Int32)), (.ref ar), .null])) _
    refine st1 _ ?_
    show Steps p.tables e below (T1.setTop (mkF m 76 #[.val (.ref ar), .val (.int (0 : Int32)), .val (.int (0 : Int32)), .val (.int (4 : Int32)), .val (.int (4 : Int32)), .unset, .unset] [])) _
    exact X1.returnOut hx Bd.returns (hb hby d6_76) hr
  · show Q_rmS4_4 Z ar ka x0 x1 x2 x3 h0 n0 _ T1.heap _
    exact ⟨y0_1, y1_1, y2_1, rfl, N1, ((Keep.refl h0 [ar]).trans Kp1 (allS (Or.inl (List.mem_of_getElem? (i := 0) rfl)) all0)), Fq1_0⟩
def Q_rmS1_4 (Z : State) (ar : Addr) (ka : ClassId) (x0 : Int64) (x1 : Int64) (x2 : Int64) (x3 : Int64) (h0 : Heap) (n0 : Nat) (v : Option Value) (h : Heap) (L : List Loc) : Prop := ∃ y0 : Int64, ∃ y1 : Int64, ∃ y2 : Int64, v = none ∧ Fr n0 L ∧ Keep h0 h [ar] ∧ Arv Z h ar ka .long (4 : Int32) [(.long y0), (.long y1), (.long y2), (.long (own_mx (own_mx (own_mx x0 x1) x2) x3))] (.long (0 : Int64))
theorem ef_rmS1_4 (m : MethodId) (ar : Addr) : entryFrame m #[(.ref ar)] 1 = mkF m 0 #[.val (.ref ar)] [] := by first | (simp [entryFrame, mkF, argsToLocals, Value.category]; done) | rfl
set_option maxRecDepth 65536 in
set_option maxHeartbeats 40000000 in
theorem rmS1_4 (l : Launch) (Z : State) (a0 : Array Value) (hw : ∀ d ∈ tables_1, d.before a0 Z = true) (ws : List Jvm.Cond) (ar : Addr) (ka : ClassId) (x0 : Int64) (x1 : Int64) (x2 : Int64) (x3 : Int64) (h0 : Heap) (n0 : Nat) (Z0 : n0 ≤ h0.size) (V_ar : Arv Z h0 ar ka .long (4 : Int32) [(.long x0), (.long x1), (.long x2), (.long x3)] (.long (0 : Int64))) (g_ar : n0 ≤ ar) :
    MetFree l (⟨"java/util/Arrays", "sort", "([J)V"⟩ : MethodName) (head1 (Jvm.Cond.code (⟨"java/util/Arrays", "sort", "([J)V"⟩ : MethodName) jdk_65_method_4_code 1 none :: ws) ({ frames := 3, cells := 0, slots := 0, locals := 72 } : Room)) (fun a U => a = #[(.ref ar)] ∧ Z.Warmed39 U.vm ∧ U.heap = h0) (fun _ _ _ _ _ => True) (fun _ U o U' => ∃ v L, o = .returned v ∧ Q_rmS1_4 Z ar ka x0 x1 x2 x3 h0 n0 v U'.heap L ∧ FrameEnd U o U' L ({ frames := 3, cells := 0, slots := 0, locals := 72 } : Room).cells ({ frames := 3, cells := 0, slots := 0, locals := 72 } : Room).slots) := by
  refine MetFree.of_bodySF (plainFor_of_name pn_2) hisR ?_
  intro p e s m args below meth c s₁ Bd hml0 hP hK
  obtain ⟨rfl, hZ, hh⟩ := hP
  have hx := Bd.exec
  have hby := Bd.bytes
  have hml : c.maxLocals = 1 := hml0
  have hown : s.vm.findClass "java/util/Arrays" = some m.cls := findClass_of_methodNamed Bd.named
  have hnm := (name_of_methodNamed Bd.named Bd.method).1
  have X0 : Stand p l e ({ frames := 3, cells := 0, slots := 0, locals := 72 } : Room) s m #[(.ref ar)] below meth c s₁ [] 0 0 := Stand.of_body Bd
  have e0 : s₁.heap = h0 := by rw [← hh, Bd.state]; rfl
  have N0 := Fr.nil n0
  have pre0 : ∀ t, Steps p.tables e below (s₁.setTop (mkF m 0 #[.val (.ref ar)] [])) t → Steps p.tables e below (s₁.setTop (entryFrame m #[(.ref ar)] 1)) t := fun t k => castTop (ef_rmS1_4 m ar) k
  have Vc1 := V_ar
  obtain ⟨cl1, Ar1, -, S1, M1, -, -⟩ := Vc1
  obtain ⟨_, _, ⟨T2, L2, k2, n2⟩, -, X2, ⟨Lc2, hQ2, l2, y2, z2⟩, st2⟩ := Jvm.LawKit.callS X0 hx (y := (⟨"java/util/DualPivotQuicksort", "sort", "([JIII)V"⟩ : MethodName)) hown (mvT hZ (hw _ (List.mem_of_getElem? (i := 47) rfl))) (mvT hZ (hw _ (List.mem_of_getElem? (i := 48) rfl))) (mvT hZ (hw _ (List.mem_of_getElem? (i := 49) rfl))) (mvT hZ (hw _ (List.mem_of_getElem? (i := 50) rfl))) (by decide) (backOf (W := 0) (rmS4_4 l Z a0 hw [] ar ka x0 x1 x2 x3 h0 n0 Z0 V_ar g_ar) hZ (hw _ (List.mem_of_getElem? (i := 50) rfl)) (hw _ (List.mem_of_getElem? (i := 49) rfl)) (by decide) (by decide)) (g := (mkF m 5 #[.val (.ref ar)] [(.int (4 : Int32)), (.int (0 : Int32)), (.int (0 : Int32)), (.ref ar)])) rfl (by rw [hml]; rfl) (argsL := [(.ref ar), (.int (0 : Int32)), (.int (0 : Int32)), (.int (4 : Int32))]) (rest := []) (lenOf pd_3 rfl) rfl (by show 2 * 0 + _ ≤ _; exact Nat.le_of_eq rfl) (hb hby d7_5) (fun _ _ => ⟨rfl, e0, (by decide : 0 + 0 ≤ _), (by decide : 0 + 0 ≤ _)⟩)
  dsimp only [Pt.U, Pt.locs, Pt.cells, Pt.slots] at X2 l2 y2 z2 st2 hQ2
  subst l2 y2 z2
  obtain ⟨y0_2, y1_2, y2_2, rfl, Nq2, Kp2, Fq2_0⟩ := hQ2
  have N2 := Fr.app N0 Nq2
  obtain ⟨fs, hr, hrun, hended, hW, hsame⟩ := X2.leave (v := none) (fun _ => rfl)
  refine ⟨_, _, pre0 _ ?_, hrun, hended, _, _, rfl, ?_, ⟨_, rfl⟩, hW, hsame.mono (by decide) (by decide)⟩
  · show Steps p.tables e below (s₁.setTop (mkF m 0 #[.val (.ref ar)] [])) _
    refine XS.aloadN X0.here hx rfl (hb hby d7_0) rfl rfl ?_
    show Steps p.tables e below (s₁.setTop (mkF m 1 #[.val (.ref ar)] [(.ref ar)])) _
    refine XS.iconst X0.here hx rfl (hb hby d7_1) ?_
    show Steps p.tables e below (s₁.setTop (mkF m 2 #[.val (.ref ar)] [(.int (0 : Int32)), (.ref ar)])) _
    refine XS.iconst X0.here hx rfl (hb hby d7_2) ?_
    show Steps p.tables e below (s₁.setTop (mkF m 3 #[.val (.ref ar)] [(.int (0 : Int32)), (.int (0 : Int32)), (.ref ar)])) _
    refine XS.aloadN X0.here hx rfl (hb hby d7_3) rfl rfl ?_
    show Steps p.tables e below (s₁.setTop (mkF m 4 #[.val (.ref ar)] [(.ref ar), (.int (0 : Int32)), (.int (0 : Int32)), (.ref ar)])) _
    refine X0.arraylength hx (cell := cl1) (by rw [e0]; exact Ar1.1) (State.isArrayOf_alike hZ.alike Ar1.2.1) (g := (mkF m 4 #[.val (.ref ar)] [(.ref ar), (.int (0 : Int32)), (.int (0 : Int32)), (.ref ar)])) rfl (rest := [(.int (0 : Int32)), (.int (0 : Int32)), (.ref ar)]) rfl (hb hby d7_4) _ ?_
    rw [len_of S1 M1]
    show Steps p.tables e below (s₁.setTop (mkF m 5 #[.val (.ref ar)] [(.int (4 : Int32)), (.int (0 : Int32)), (.int (0 : Int32)), (.ref ar)])) _
    refine st2 _ ?_
    show Steps p.tables e below (T2.setTop (mkF m 8 #[.val (.ref ar)] [])) _
    exact X2.returnOut hx Bd.returns (hb hby d7_8) hr
  · show Q_rmS1_4 Z ar ka x0 x1 x2 x3 h0 n0 _ T2.heap _
    exact ⟨y0_2, y1_2, y2_2, rfl, N2, ((Keep.refl h0 [ar]).trans Kp2 (allS (Or.inl (List.mem_of_getElem? (i := 0) rfl)) all0)), Fq2_0⟩
theorem d8_0 : decode jdk_65_method_124_code 0 = .ok (.iload_n 1, 1) := by decide +kernel
theorem d8_1 : decode jdk_65_method_124_code 1 = .ok (.aload_n 0, 1) := by decide +kernel
theorem d8_2 : decode jdk_65_method_124_code 2 = .ok (.arraylength, 1) := by decide +kernel
theorem d8_3 : decode jdk_65_method_124_code 3 = .ok (.if_icmp .ne 11, 3) := by decide +kernel
theorem d8_14 : decode jdk_65_method_124_code 14 = .ok (.iload_n 1, 1) := by decide +kernel
theorem d8_15 : decode jdk_65_method_124_code 15 = .ok (.newarray .long, 2) := by decide +kernel
theorem d8_17 : decode jdk_65_method_124_code 17 = .ok (.astore_n 2, 1) := by decide +kernel
theorem d8_18 : decode jdk_65_method_124_code 18 = .ok (.aload_n 0, 1) := by decide +kernel
theorem d8_19 : decode jdk_65_method_124_code 19 = .ok (.iconst 0, 1) := by decide +kernel
theorem d8_20 : decode jdk_65_method_124_code 20 = .ok (.aload_n 2, 1) := by decide +kernel
theorem d8_21 : decode jdk_65_method_124_code 21 = .ok (.iconst 0, 1) := by decide +kernel
theorem d8_22 : decode jdk_65_method_124_code 22 = .ok (.aload_n 0, 1) := by decide +kernel
theorem d8_23 : decode jdk_65_method_124_code 23 = .ok (.arraylength, 1) := by decide +kernel
theorem d8_24 : decode jdk_65_method_124_code 24 = .ok (.iload_n 1, 1) := by decide +kernel
theorem d8_25 : decode jdk_65_method_124_code 25 = .ok (.invokestatic 304, 3) := by decide +kernel
theorem d8_28 : decode jdk_65_method_124_code 28 = .ok (.invokestatic 150, 3) := by decide +kernel
theorem d8_31 : decode jdk_65_method_124_code 31 = .ok (.aload_n 2, 1) := by decide +kernel
theorem d8_32 : decode jdk_65_method_124_code 32 = .ok (.areturn, 1) := by decide +kernel
def Q_rmC1 (Z : State) (na : Addr) (ka : ClassId) (x0 : Int64) (x1 : Int64) (x2 : Int64) (x3 : Int64) (h0 : Heap) (n0 : Nat) (v : Option Value) (h : Heap) (L : List Loc) : Prop := ∃ nb : Addr, ∃ kb : ClassId, v = some (.ref nb) ∧ Fr n0 L ∧ h0.size ≤ nb ∧ Keep h0 h [] ∧ Arv Z h nb kb .long (1 : Int32) [(.long x0)] (.long (0 : Int64))
theorem ef_rmC1 (m : MethodId) (na : Addr) : entryFrame m #[(.ref na), (.int (1 : Int32))] 3 = mkF m 0 #[.val (.ref na), .val (.int (1 : Int32)), .unset] [] := by first | (simp [entryFrame, mkF, argsToLocals, Value.category]; done) | rfl
set_option maxRecDepth 65536 in
set_option maxHeartbeats 40000000 in
theorem rmC1 (l : Launch) (Z : State) (a0 : Array Value) (hw : ∀ d ∈ tables_1, d.before a0 Z = true) (ws : List Jvm.Cond) (na : Addr) (ka : ClassId) (x0 : Int64) (x1 : Int64) (x2 : Int64) (x3 : Int64) (h0 : Heap) (n0 : Nat) (Z0 : n0 ≤ h0.size) (V_na : Arv Z h0 na ka .long (100 : Int32) [(.long x0), (.long x1), (.long x2), (.long x3)] (.long (0 : Int64))) :
    MetFree l (⟨"java/util/Arrays", "copyOf", "([JI)[J"⟩ : MethodName) (head1 (Jvm.Cond.code (⟨"java/util/Arrays", "copyOf", "([JI)[J"⟩ : MethodName) jdk_65_method_124_code 3 (some (.array .long)) :: ws) ({ frames := 1, cells := 1, slots := 1, locals := 64 } : Room)) (fun a U => a = #[(.ref na), (.int (1 : Int32))] ∧ Z.Warmed39 U.vm ∧ U.heap = h0) (fun _ _ _ _ _ => True) (fun _ U o U' => ∃ v L, o = .returned v ∧ Q_rmC1 Z na ka x0 x1 x2 x3 h0 n0 v U'.heap L ∧ FrameEnd U o U' L ({ frames := 1, cells := 1, slots := 1, locals := 64 } : Room).cells ({ frames := 1, cells := 1, slots := 1, locals := 64 } : Room).slots) := by
  refine MetFree.of_bodySF (plainFor_of_name pn_2) hisR ?_
  intro p e s m args below meth c s₁ Bd hml0 hP hK
  obtain ⟨rfl, hZ, hh⟩ := hP
  have hx := Bd.exec
  have hby := Bd.bytes
  have hml : c.maxLocals = 3 := hml0
  have hown : s.vm.findClass "java/util/Arrays" = some m.cls := findClass_of_methodNamed Bd.named
  have hnm := (name_of_methodNamed Bd.named Bd.method).1
  have X0 : Stand p l e ({ frames := 1, cells := 1, slots := 1, locals := 64 } : Room) s m #[(.ref na), (.int (1 : Int32))] below meth c s₁ [] 0 0 := Stand.of_body Bd
  have e0 : s₁.heap = h0 := by rw [← hh, Bd.state]; rfl
  have N0 := Fr.nil n0
  have pre0 : ∀ t, Steps p.tables e below (s₁.setTop (mkF m 0 #[.val (.ref na), .val (.int (1 : Int32)), .unset] [])) t → Steps p.tables e below (s₁.setTop (entryFrame m #[(.ref na), (.int (1 : Int32))] 3)) t := fun t k => castTop (ef_rmC1 m na) k
  have Vc1 := V_na
  obtain ⟨cl1, Ar1, -, S1, M1, -, -⟩ := Vc1
  obtain ⟨T2, h2, k2, X2, e2, E2, A2, st2⟩ := newP X0 hx hZ (hw _ (List.mem_of_getElem? (i := 10) rfl)) e0 (g := (mkF m 15 #[.val (.ref na), .val (.int (1 : Int32)), .unset] [(.int (1 : Int32))])) rfl (hb hby d8_15) rfl (by decide) (cap := 1) (by decide) (by decide) (by decide) (by decide)
  obtain ⟨b2, g2⟩ : ∃ z, z = h0.size := ⟨_, rfl⟩
  rw [← g2] at A2 st2
  have V2 : Arv Z h2 b2 k2 .long (1 : Int32) [(.long (0 : Int64))] (.long (0 : Int64)) := (Arv.new A2 (by decide)).pad (pad_rep [] (.long (0 : Int64)) 1)
  have f3 : Arv Z h2 na ka .long (100 : Int32) [(.long x0), (.long x1), (.long x2), (.long x3)] (.long (0 : Int64)) := (V_na.ext E2)
  have Vc4 := f3
  obtain ⟨cl4, Ar4, -, S4, M4, -, -⟩ := Vc4
  obtain ⟨_, _, ⟨T5, L5, k5, n5⟩, -, X5, ⟨Lc5, hQ5, l5, y5, z5⟩, st5⟩ := Jvm.LawKit.callS X2 hx (y := (⟨"java/lang/Math", "min", "(II)I"⟩ : MethodName)) hown (mvT hZ (hw _ (List.mem_of_getElem? (i := 39) rfl))) (mvT hZ (hw _ (List.mem_of_getElem? (i := 23) rfl))) (mvT hZ (hw _ (List.mem_of_getElem? (i := 24) rfl))) (mvT hZ (hw _ (List.mem_of_getElem? (i := 25) rfl))) (by decide) (backOf (W := 4) (rmin_t l Z a0 hw [] (100 : Int32) (1 : Int32) h2 n0 (Nat.le_trans Z0 E2.1) (by first | assumption | decide)) hZ (hw _ (List.mem_of_getElem? (i := 25) rfl)) (hw _ (List.mem_of_getElem? (i := 24) rfl)) (by decide) (by decide)) (g := (mkF m 25 #[.val (.ref na), .val (.int (1 : Int32)), .val (.ref b2)] [(.int (1 : Int32)), (.int (100 : Int32)), (.int (0 : Int32)), (.ref b2), (.int (0 : Int32)), (.ref na)])) rfl (by rw [hml]; rfl) (argsL := [(.int (100 : Int32)), (.int (1 : Int32))]) (rest := [(.int (0 : Int32)), (.ref b2), (.int (0 : Int32)), (.ref na)]) (lenOf pd_0 rfl) rfl (by show 2 * 0 + _ ≤ _; exact Nat.le_of_eq rfl) (hb hby d8_25) (fun _ _ => ⟨rfl, e2, (by decide : 1 + 0 ≤ _), (by decide : 1 + 0 ≤ _)⟩)
  dsimp only [Pt.U, Pt.locs, Pt.cells, Pt.slots] at X5 l5 y5 z5 st5 hQ5
  subst l5 y5 z5
  obtain ⟨rfl, Nq5, e5⟩ := hQ5
  have N5 := Fr.app N0 Nq5
  obtain ⟨T6, h6, lo6, X6, e6, N6, Kp6, Va6, st6⟩ := cpA X5 hx hZ hown (hw _ (List.mem_of_getElem? (i := 40) rfl)) (hw _ (List.mem_of_getElem? (i := 43) rfl)) (hw _ (List.mem_of_getElem? (i := 41) rfl)) (hw _ (List.mem_of_getElem? (i := 42) rfl)) e5 f3 V2 (Or.inl ⟨rfl, rfl⟩) (by decide) (by decide) (by decide) (by decide) (by decide) (us := [(.long x0)]) rfl (by decide) N5 (Nat.le_trans Z0 (Nat.le_of_eq g2.symm)) (g := (mkF m 28 #[.val (.ref na), .val (.int (1 : Int32)), .val (.ref b2)] [(.int (1 : Int32)), (.int (0 : Int32)), (.ref b2), (.int (0 : Int32)), (.ref na)])) rfl (by rw [hml]; rfl) (rest := []) rfl (hb hby d8_28) (by decide) (W := 0) (by show 2 * 0 + _ ≤ _; exact Nat.le_of_eq rfl) (by decide)
  have Vb6 : Arv Z h6 b2 k2 .long (1 : Int32) [(.long x0)] (.long (0 : Int64)) := Va6
  obtain ⟨fs, hr, hrun, hended, hW, hsame⟩ := X6.leave (v := some (.ref b2)) (fun h => by rw [Bd.returns] at h; cases h)
  refine ⟨_, _, pre0 _ ?_, hrun, hended, _, _, rfl, ?_, ⟨_, rfl⟩, hW, hsame.mono (by decide) (by decide)⟩
  · show Steps p.tables e below (s₁.setTop (mkF m 0 #[.val (.ref na), .val (.int (1 : Int32)), .unset] [])) _
    refine XS.iloadN X0.here hx rfl (hb hby d8_0) rfl ?_
    show Steps p.tables e below (s₁.setTop (mkF m 1 #[.val (.ref na), .val (.int (1 : Int32)), .unset] [(.int (1 : Int32))])) _
    refine XS.aloadN X0.here hx rfl (hb hby d8_1) rfl rfl ?_
    show Steps p.tables e below (s₁.setTop (mkF m 2 #[.val (.ref na), .val (.int (1 : Int32)), .unset] [(.ref na), (.int (1 : Int32))])) _
    refine X0.arraylength hx (cell := cl1) (by rw [e0]; exact Ar1.1) (State.isArrayOf_alike hZ.alike Ar1.2.1) (g := (mkF m 2 #[.val (.ref na), .val (.int (1 : Int32)), .unset] [(.ref na), (.int (1 : Int32))])) rfl (rest := [(.int (1 : Int32))]) rfl (hb hby d8_2) _ ?_
    rw [len_of S1 M1]
    show Steps p.tables e below (s₁.setTop (mkF m 3 #[.val (.ref na), .val (.int (1 : Int32)), .unset] [(.int (100 : Int32)), (.int (1 : Int32))])) _
    refine XS.icmpYes X0.here hx rfl (pc0 := 3) (pc' := 14) rfl (hb hby d8_3) rfl (feq (by decide : ¬ ((1 : Int32) = (100 : Int32)))).2 (by decide) (by decide) ?_
    show Steps p.tables e below (s₁.setTop (mkF m 14 #[.val (.ref na), .val (.int (1 : Int32)), .unset] [])) _
    refine XS.iloadN X0.here hx rfl (hb hby d8_14) rfl ?_
    show Steps p.tables e below (s₁.setTop (mkF m 15 #[.val (.ref na), .val (.int (1 : Int32)), .unset] [(.int (1 : Int32))])) _
    refine st2 _ ?_
    show Steps p.tables e below (T2.setTop (mkF m 17 #[.val (.ref na), .val (.int (1 : Int32)), .unset] [(.ref b2)])) _
    refine XS.astoreN X2.here hx rfl (hb hby d8_17) rfl rfl (l' := #[.val (.ref na), .val (.int (1 : Int32)), .val (.ref b2)]) rfl ?_
    show Steps p.tables e below (T2.setTop (mkF m 18 #[.val (.ref na), .val (.int (1 : Int32)), .val (.ref b2)] [])) _
    refine XS.aloadN X2.here hx rfl (hb hby d8_18) rfl rfl ?_
    show Steps p.tables e below (T2.setTop (mkF m 19 #[.val (.ref na), .val (.int (1 : Int32)), .val (.ref b2)] [(.ref na)])) _
    refine XS.iconst X2.here hx rfl (hb hby d8_19) ?_
    show Steps p.tables e below (T2.setTop (mkF m 20 #[.val (.ref na), .val (.int (1 : Int32)), .val (.ref b2)] [(.int (0 : Int32)), (.ref na)])) _
    refine XS.aloadN X2.here hx rfl (hb hby d8_20) rfl rfl ?_
    show Steps p.tables e below (T2.setTop (mkF m 21 #[.val (.ref na), .val (.int (1 : Int32)), .val (.ref b2)] [(.ref b2), (.int (0 : Int32)), (.ref na)])) _
    refine XS.iconst X2.here hx rfl (hb hby d8_21) ?_
    show Steps p.tables e below (T2.setTop (mkF m 22 #[.val (.ref na), .val (.int (1 : Int32)), .val (.ref b2)] [(.int (0 : Int32)), (.ref b2), (.int (0 : Int32)), (.ref na)])) _
    refine XS.aloadN X2.here hx rfl (hb hby d8_22) rfl rfl ?_
    show Steps p.tables e below (T2.setTop (mkF m 23 #[.val (.ref na), .val (.int (1 : Int32)), .val (.ref b2)] [(.ref na), (.int (0 : Int32)), (.ref b2), (.int (0 : Int32)), (.ref na)])) _
    refine X2.arraylength hx (cell := cl4) (by rw [e2]; exact Ar4.1) (State.isArrayOf_alike hZ.alike Ar4.2.1) (g := (mkF m 23 #[.val (.ref na), .val (.int (1 : Int32)), .val (.ref b2)] [(.ref na), (.int (0 : Int32)), (.ref b2), (.int (0 : Int32)), (.ref na)])) rfl (rest := [(.int (0 : Int32)), (.ref b2), (.int (0 : Int32)), (.ref na)]) rfl (hb hby d8_23) _ ?_
    rw [len_of S4 M4]
    show Steps p.tables e below (T2.setTop (mkF m 24 #[.val (.ref na), .val (.int (1 : Int32)), .val (.ref b2)] [(.int (100 : Int32)), (.int (0 : Int32)), (.ref b2), (.int (0 : Int32)), (.ref na)])) _
    refine XS.iloadN X2.here hx rfl (hb hby d8_24) rfl ?_
    show Steps p.tables e below (T2.setTop (mkF m 25 #[.val (.ref na), .val (.int (1 : Int32)), .val (.ref b2)] [(.int (1 : Int32)), (.int (100 : Int32)), (.int (0 : Int32)), (.ref b2), (.int (0 : Int32)), (.ref na)])) _
    refine st5 _ ?_
    show Steps p.tables e below (T5.setTop (mkF m 28 #[.val (.ref na), .val (.int (1 : Int32)), .val (.ref b2)] [(.int (1 : Int32)), (.int (0 : Int32)), (.ref b2), (.int (0 : Int32)), (.ref na)])) _
    refine st6 _ ?_
    show Steps p.tables e below (T6.setTop (mkF m 31 #[.val (.ref na), .val (.int (1 : Int32)), .val (.ref b2)] [])) _
    refine XS.aloadN X6.here hx rfl (hb hby d8_31) rfl rfl ?_
    show Steps p.tables e below (T6.setTop (mkF m 32 #[.val (.ref na), .val (.int (1 : Int32)), .val (.ref b2)] [(.ref b2)])) _
    exact retOut X6 hx Bd.returns rfl (Or.inr (Or.inr (Or.inr (Or.inr ⟨rfl, rfl, rfl⟩)))) (hb hby d8_32) hr
  · show Q_rmC1 Z na ka x0 x1 x2 x3 h0 n0 _ T6.heap _
    rw [e6]
    exact ⟨b2, k2, rfl, N6, (Nat.le_trans (Nat.le_refl h0.size) (Nat.le_of_eq g2.symm)), (((Keep.refl h0 []).ext E2).trans Kp6 (allS (Or.inr (Nat.le_trans (Nat.le_refl h0.size) (Nat.le_of_eq g2.symm))) all0)), Vb6⟩
def Q_rmC2 (Z : State) (na : Addr) (ka : ClassId) (x0 : Int64) (x1 : Int64) (x2 : Int64) (x3 : Int64) (h0 : Heap) (n0 : Nat) (v : Option Value) (h : Heap) (L : List Loc) : Prop := ∃ nb : Addr, ∃ kb : ClassId, v = some (.ref nb) ∧ Fr n0 L ∧ h0.size ≤ nb ∧ Keep h0 h [] ∧ Arv Z h nb kb .long (2 : Int32) [(.long x0), (.long x1)] (.long (0 : Int64))
theorem ef_rmC2 (m : MethodId) (na : Addr) : entryFrame m #[(.ref na), (.int (2 : Int32))] 3 = mkF m 0 #[.val (.ref na), .val (.int (2 : Int32)), .unset] [] := by first | (simp [entryFrame, mkF, argsToLocals, Value.category]; done) | rfl
set_option maxRecDepth 65536 in
set_option maxHeartbeats 40000000 in
theorem rmC2 (l : Launch) (Z : State) (a0 : Array Value) (hw : ∀ d ∈ tables_1, d.before a0 Z = true) (ws : List Jvm.Cond) (na : Addr) (ka : ClassId) (x0 : Int64) (x1 : Int64) (x2 : Int64) (x3 : Int64) (h0 : Heap) (n0 : Nat) (Z0 : n0 ≤ h0.size) (V_na : Arv Z h0 na ka .long (100 : Int32) [(.long x0), (.long x1), (.long x2), (.long x3)] (.long (0 : Int64))) :
    MetFree l (⟨"java/util/Arrays", "copyOf", "([JI)[J"⟩ : MethodName) (head1 (Jvm.Cond.code (⟨"java/util/Arrays", "copyOf", "([JI)[J"⟩ : MethodName) jdk_65_method_124_code 3 (some (.array .long)) :: ws) ({ frames := 1, cells := 1, slots := 2, locals := 64 } : Room)) (fun a U => a = #[(.ref na), (.int (2 : Int32))] ∧ Z.Warmed39 U.vm ∧ U.heap = h0) (fun _ _ _ _ _ => True) (fun _ U o U' => ∃ v L, o = .returned v ∧ Q_rmC2 Z na ka x0 x1 x2 x3 h0 n0 v U'.heap L ∧ FrameEnd U o U' L ({ frames := 1, cells := 1, slots := 2, locals := 64 } : Room).cells ({ frames := 1, cells := 1, slots := 2, locals := 64 } : Room).slots) := by
  refine MetFree.of_bodySF (plainFor_of_name pn_2) hisR ?_
  intro p e s m args below meth c s₁ Bd hml0 hP hK
  obtain ⟨rfl, hZ, hh⟩ := hP
  have hx := Bd.exec
  have hby := Bd.bytes
  have hml : c.maxLocals = 3 := hml0
  have hown : s.vm.findClass "java/util/Arrays" = some m.cls := findClass_of_methodNamed Bd.named
  have hnm := (name_of_methodNamed Bd.named Bd.method).1
  have X0 : Stand p l e ({ frames := 1, cells := 1, slots := 2, locals := 64 } : Room) s m #[(.ref na), (.int (2 : Int32))] below meth c s₁ [] 0 0 := Stand.of_body Bd
  have e0 : s₁.heap = h0 := by rw [← hh, Bd.state]; rfl
  have N0 := Fr.nil n0
  have pre0 : ∀ t, Steps p.tables e below (s₁.setTop (mkF m 0 #[.val (.ref na), .val (.int (2 : Int32)), .unset] [])) t → Steps p.tables e below (s₁.setTop (entryFrame m #[(.ref na), (.int (2 : Int32))] 3)) t := fun t k => castTop (ef_rmC2 m na) k
  have Vc1 := V_na
  obtain ⟨cl1, Ar1, -, S1, M1, -, -⟩ := Vc1
  obtain ⟨T2, h2, k2, X2, e2, E2, A2, st2⟩ := newP X0 hx hZ (hw _ (List.mem_of_getElem? (i := 10) rfl)) e0 (g := (mkF m 15 #[.val (.ref na), .val (.int (2 : Int32)), .unset] [(.int (2 : Int32))])) rfl (hb hby d8_15) rfl (by decide) (cap := 2) (by decide) (by decide) (by decide) (by decide)
  obtain ⟨b2, g2⟩ : ∃ z, z = h0.size := ⟨_, rfl⟩
  rw [← g2] at A2 st2
  have V2 : Arv Z h2 b2 k2 .long (2 : Int32) [(.long (0 : Int64)), (.long (0 : Int64))] (.long (0 : Int64)) := (Arv.new A2 (by decide)).pad (pad_rep [] (.long (0 : Int64)) 2)
  have f3 : Arv Z h2 na ka .long (100 : Int32) [(.long x0), (.long x1), (.long x2), (.long x3)] (.long (0 : Int64)) := (V_na.ext E2)
  have Vc4 := f3
  obtain ⟨cl4, Ar4, -, S4, M4, -, -⟩ := Vc4
  obtain ⟨_, _, ⟨T5, L5, k5, n5⟩, -, X5, ⟨Lc5, hQ5, l5, y5, z5⟩, st5⟩ := Jvm.LawKit.callS X2 hx (y := (⟨"java/lang/Math", "min", "(II)I"⟩ : MethodName)) hown (mvT hZ (hw _ (List.mem_of_getElem? (i := 39) rfl))) (mvT hZ (hw _ (List.mem_of_getElem? (i := 23) rfl))) (mvT hZ (hw _ (List.mem_of_getElem? (i := 24) rfl))) (mvT hZ (hw _ (List.mem_of_getElem? (i := 25) rfl))) (by decide) (backOf (W := 4) (rmin_t l Z a0 hw [] (100 : Int32) (2 : Int32) h2 n0 (Nat.le_trans Z0 E2.1) (by first | assumption | decide)) hZ (hw _ (List.mem_of_getElem? (i := 25) rfl)) (hw _ (List.mem_of_getElem? (i := 24) rfl)) (by decide) (by decide)) (g := (mkF m 25 #[.val (.ref na), .val (.int (2 : Int32)), .val (.ref b2)] [(.int (2 : Int32)), (.int (100 : Int32)), (.int (0 : Int32)), (.ref b2), (.int (0 : Int32)), (.ref na)])) rfl (by rw [hml]; rfl) (argsL := [(.int (100 : Int32)), (.int (2 : Int32))]) (rest := [(.int (0 : Int32)), (.ref b2), (.int (0 : Int32)), (.ref na)]) (lenOf pd_0 rfl) rfl (by show 2 * 0 + _ ≤ _; exact Nat.le_of_eq rfl) (hb hby d8_25) (fun _ _ => ⟨rfl, e2, (by decide : 1 + 0 ≤ _), (by decide : 2 + 0 ≤ _)⟩)
  dsimp only [Pt.U, Pt.locs, Pt.cells, Pt.slots] at X5 l5 y5 z5 st5 hQ5
  subst l5 y5 z5
  obtain ⟨rfl, Nq5, e5⟩ := hQ5
  have N5 := Fr.app N0 Nq5
  obtain ⟨T6, h6, lo6, X6, e6, N6, Kp6, Va6, st6⟩ := cpA X5 hx hZ hown (hw _ (List.mem_of_getElem? (i := 40) rfl)) (hw _ (List.mem_of_getElem? (i := 43) rfl)) (hw _ (List.mem_of_getElem? (i := 41) rfl)) (hw _ (List.mem_of_getElem? (i := 42) rfl)) e5 f3 V2 (Or.inl ⟨rfl, rfl⟩) (by decide) (by decide) (by decide) (by decide) (by decide) (us := [(.long x0), (.long x1)]) rfl (by decide) N5 (Nat.le_trans Z0 (Nat.le_of_eq g2.symm)) (g := (mkF m 28 #[.val (.ref na), .val (.int (2 : Int32)), .val (.ref b2)] [(.int (2 : Int32)), (.int (0 : Int32)), (.ref b2), (.int (0 : Int32)), (.ref na)])) rfl (by rw [hml]; rfl) (rest := []) rfl (hb hby d8_28) (by decide) (W := 0) (by show 2 * 0 + _ ≤ _; exact Nat.le_of_eq rfl) (by decide)
  have Vb6 : Arv Z h6 b2 k2 .long (2 : Int32) [(.long x0), (.long x1)] (.long (0 : Int64)) := Va6
  obtain ⟨fs, hr, hrun, hended, hW, hsame⟩ := X6.leave (v := some (.ref b2)) (fun h => by rw [Bd.returns] at h; cases h)
  refine ⟨_, _, pre0 _ ?_, hrun, hended, _, _, rfl, ?_, ⟨_, rfl⟩, hW, hsame.mono (by decide) (by decide)⟩
  · show Steps p.tables e below (s₁.setTop (mkF m 0 #[.val (.ref na), .val (.int (2 : Int32)), .unset] [])) _
    refine XS.iloadN X0.here hx rfl (hb hby d8_0) rfl ?_
    show Steps p.tables e below (s₁.setTop (mkF m 1 #[.val (.ref na), .val (.int (2 : Int32)), .unset] [(.int (2 : Int32))])) _
    refine XS.aloadN X0.here hx rfl (hb hby d8_1) rfl rfl ?_
    show Steps p.tables e below (s₁.setTop (mkF m 2 #[.val (.ref na), .val (.int (2 : Int32)), .unset] [(.ref na), (.int (2 : Int32))])) _
    refine X0.arraylength hx (cell := cl1) (by rw [e0]; exact Ar1.1) (State.isArrayOf_alike hZ.alike Ar1.2.1) (g := (mkF m 2 #[.val (.ref na), .val (.int (2 : Int32)), .unset] [(.ref na), (.int (2 : Int32))])) rfl (rest := [(.int (2 : Int32))]) rfl (hb hby d8_2) _ ?_
    rw [len_of S1 M1]
    show Steps p.tables e below (s₁.setTop (mkF m 3 #[.val (.ref na), .val (.int (2 : Int32)), .unset] [(.int (100 : Int32)), (.int (2 : Int32))])) _
    refine XS.icmpYes X0.here hx rfl (pc0 := 3) (pc' := 14) rfl (hb hby d8_3) rfl (feq (by decide : ¬ ((2 : Int32) = (100 : Int32)))).2 (by decide) (by decide) ?_
    show Steps p.tables e below (s₁.setTop (mkF m 14 #[.val (.ref na), .val (.int (2 : Int32)), .unset] [])) _
    refine XS.iloadN X0.here hx rfl (hb hby d8_14) rfl ?_
    show Steps p.tables e below (s₁.setTop (mkF m 15 #[.val (.ref na), .val (.int (2 : Int32)), .unset] [(.int (2 : Int32))])) _
    refine st2 _ ?_
    show Steps p.tables e below (T2.setTop (mkF m 17 #[.val (.ref na), .val (.int (2 : Int32)), .unset] [(.ref b2)])) _
    refine XS.astoreN X2.here hx rfl (hb hby d8_17) rfl rfl (l' := #[.val (.ref na), .val (.int (2 : Int32)), .val (.ref b2)]) rfl ?_
    show Steps p.tables e below (T2.setTop (mkF m 18 #[.val (.ref na), .val (.int (2 : Int32)), .val (.ref b2)] [])) _
    refine XS.aloadN X2.here hx rfl (hb hby d8_18) rfl rfl ?_
    show Steps p.tables e below (T2.setTop (mkF m 19 #[.val (.ref na), .val (.int (2 : Int32)), .val (.ref b2)] [(.ref na)])) _
    refine XS.iconst X2.here hx rfl (hb hby d8_19) ?_
    show Steps p.tables e below (T2.setTop (mkF m 20 #[.val (.ref na), .val (.int (2 : Int32)), .val (.ref b2)] [(.int (0 : Int32)), (.ref na)])) _
    refine XS.aloadN X2.here hx rfl (hb hby d8_20) rfl rfl ?_
    show Steps p.tables e below (T2.setTop (mkF m 21 #[.val (.ref na), .val (.int (2 : Int32)), .val (.ref b2)] [(.ref b2), (.int (0 : Int32)), (.ref na)])) _
    refine XS.iconst X2.here hx rfl (hb hby d8_21) ?_
    show Steps p.tables e below (T2.setTop (mkF m 22 #[.val (.ref na), .val (.int (2 : Int32)), .val (.ref b2)] [(.int (0 : Int32)), (.ref b2), (.int (0 : Int32)), (.ref na)])) _
    refine XS.aloadN X2.here hx rfl (hb hby d8_22) rfl rfl ?_
    show Steps p.tables e below (T2.setTop (mkF m 23 #[.val (.ref na), .val (.int (2 : Int32)), .val (.ref b2)] [(.ref na), (.int (0 : Int32)), (.ref b2), (.int (0 : Int32)), (.ref na)])) _
    refine X2.arraylength hx (cell := cl4) (by rw [e2]; exact Ar4.1) (State.isArrayOf_alike hZ.alike Ar4.2.1) (g := (mkF m 23 #[.val (.ref na), .val (.int (2 : Int32)), .val (.ref b2)] [(.ref na), (.int (0 : Int32)), (.ref b2), (.int (0 : Int32)), (.ref na)])) rfl (rest := [(.int (0 : Int32)), (.ref b2), (.int (0 : Int32)), (.ref na)]) rfl (hb hby d8_23) _ ?_
    rw [len_of S4 M4]
    show Steps p.tables e below (T2.setTop (mkF m 24 #[.val (.ref na), .val (.int (2 : Int32)), .val (.ref b2)] [(.int (100 : Int32)), (.int (0 : Int32)), (.ref b2), (.int (0 : Int32)), (.ref na)])) _
    refine XS.iloadN X2.here hx rfl (hb hby d8_24) rfl ?_
    show Steps p.tables e below (T2.setTop (mkF m 25 #[.val (.ref na), .val (.int (2 : Int32)), .val (.ref b2)] [(.int (2 : Int32)), (.int (100 : Int32)), (.int (0 : Int32)), (.ref b2), (.int (0 : Int32)), (.ref na)])) _
    refine st5 _ ?_
    show Steps p.tables e below (T5.setTop (mkF m 28 #[.val (.ref na), .val (.int (2 : Int32)), .val (.ref b2)] [(.int (2 : Int32)), (.int (0 : Int32)), (.ref b2), (.int (0 : Int32)), (.ref na)])) _
    refine st6 _ ?_
    show Steps p.tables e below (T6.setTop (mkF m 31 #[.val (.ref na), .val (.int (2 : Int32)), .val (.ref b2)] [])) _
    refine XS.aloadN X6.here hx rfl (hb hby d8_31) rfl rfl ?_
    show Steps p.tables e below (T6.setTop (mkF m 32 #[.val (.ref na), .val (.int (2 : Int32)), .val (.ref b2)] [(.ref b2)])) _
    exact retOut X6 hx Bd.returns rfl (Or.inr (Or.inr (Or.inr (Or.inr ⟨rfl, rfl, rfl⟩)))) (hb hby d8_32) hr
  · show Q_rmC2 Z na ka x0 x1 x2 x3 h0 n0 _ T6.heap _
    rw [e6]
    exact ⟨b2, k2, rfl, N6, (Nat.le_trans (Nat.le_refl h0.size) (Nat.le_of_eq g2.symm)), (((Keep.refl h0 []).ext E2).trans Kp6 (allS (Or.inr (Nat.le_trans (Nat.le_refl h0.size) (Nat.le_of_eq g2.symm))) all0)), Vb6⟩
def Q_rmC3 (Z : State) (na : Addr) (ka : ClassId) (x0 : Int64) (x1 : Int64) (x2 : Int64) (x3 : Int64) (h0 : Heap) (n0 : Nat) (v : Option Value) (h : Heap) (L : List Loc) : Prop := ∃ nb : Addr, ∃ kb : ClassId, v = some (.ref nb) ∧ Fr n0 L ∧ h0.size ≤ nb ∧ Keep h0 h [] ∧ Arv Z h nb kb .long (3 : Int32) [(.long x0), (.long x1), (.long x2)] (.long (0 : Int64))
theorem ef_rmC3 (m : MethodId) (na : Addr) : entryFrame m #[(.ref na), (.int (3 : Int32))] 3 = mkF m 0 #[.val (.ref na), .val (.int (3 : Int32)), .unset] [] := by first | (simp [entryFrame, mkF, argsToLocals, Value.category]; done) | rfl
set_option maxRecDepth 65536 in
set_option maxHeartbeats 40000000 in
theorem rmC3 (l : Launch) (Z : State) (a0 : Array Value) (hw : ∀ d ∈ tables_1, d.before a0 Z = true) (ws : List Jvm.Cond) (na : Addr) (ka : ClassId) (x0 : Int64) (x1 : Int64) (x2 : Int64) (x3 : Int64) (h0 : Heap) (n0 : Nat) (Z0 : n0 ≤ h0.size) (V_na : Arv Z h0 na ka .long (100 : Int32) [(.long x0), (.long x1), (.long x2), (.long x3)] (.long (0 : Int64))) :
    MetFree l (⟨"java/util/Arrays", "copyOf", "([JI)[J"⟩ : MethodName) (head1 (Jvm.Cond.code (⟨"java/util/Arrays", "copyOf", "([JI)[J"⟩ : MethodName) jdk_65_method_124_code 3 (some (.array .long)) :: ws) ({ frames := 1, cells := 1, slots := 3, locals := 64 } : Room)) (fun a U => a = #[(.ref na), (.int (3 : Int32))] ∧ Z.Warmed39 U.vm ∧ U.heap = h0) (fun _ _ _ _ _ => True) (fun _ U o U' => ∃ v L, o = .returned v ∧ Q_rmC3 Z na ka x0 x1 x2 x3 h0 n0 v U'.heap L ∧ FrameEnd U o U' L ({ frames := 1, cells := 1, slots := 3, locals := 64 } : Room).cells ({ frames := 1, cells := 1, slots := 3, locals := 64 } : Room).slots) := by
  refine MetFree.of_bodySF (plainFor_of_name pn_2) hisR ?_
  intro p e s m args below meth c s₁ Bd hml0 hP hK
  obtain ⟨rfl, hZ, hh⟩ := hP
  have hx := Bd.exec
  have hby := Bd.bytes
  have hml : c.maxLocals = 3 := hml0
  have hown : s.vm.findClass "java/util/Arrays" = some m.cls := findClass_of_methodNamed Bd.named
  have hnm := (name_of_methodNamed Bd.named Bd.method).1
  have X0 : Stand p l e ({ frames := 1, cells := 1, slots := 3, locals := 64 } : Room) s m #[(.ref na), (.int (3 : Int32))] below meth c s₁ [] 0 0 := Stand.of_body Bd
  have e0 : s₁.heap = h0 := by rw [← hh, Bd.state]; rfl
  have N0 := Fr.nil n0
  have pre0 : ∀ t, Steps p.tables e below (s₁.setTop (mkF m 0 #[.val (.ref na), .val (.int (3 : Int32)), .unset] [])) t → Steps p.tables e below (s₁.setTop (entryFrame m #[(.ref na), (.int (3 : Int32))] 3)) t := fun t k => castTop (ef_rmC3 m na) k
  have Vc1 := V_na
  obtain ⟨cl1, Ar1, -, S1, M1, -, -⟩ := Vc1
  obtain ⟨T2, h2, k2, X2, e2, E2, A2, st2⟩ := newP X0 hx hZ (hw _ (List.mem_of_getElem? (i := 10) rfl)) e0 (g := (mkF m 15 #[.val (.ref na), .val (.int (3 : Int32)), .unset] [(.int (3 : Int32))])) rfl (hb hby d8_15) rfl (by decide) (cap := 3) (by decide) (by decide) (by decide) (by decide)
  obtain ⟨b2, g2⟩ : ∃ z, z = h0.size := ⟨_, rfl⟩
  rw [← g2] at A2 st2
  have V2 : Arv Z h2 b2 k2 .long (3 : Int32) [(.long (0 : Int64)), (.long (0 : Int64)), (.long (0 : Int64))] (.long (0 : Int64)) := (Arv.new A2 (by decide)).pad (pad_rep [] (.long (0 : Int64)) 3)
  have f3 : Arv Z h2 na ka .long (100 : Int32) [(.long x0), (.long x1), (.long x2), (.long x3)] (.long (0 : Int64)) := (V_na.ext E2)
  have Vc4 := f3
  obtain ⟨cl4, Ar4, -, S4, M4, -, -⟩ := Vc4
  obtain ⟨_, _, ⟨T5, L5, k5, n5⟩, -, X5, ⟨Lc5, hQ5, l5, y5, z5⟩, st5⟩ := Jvm.LawKit.callS X2 hx (y := (⟨"java/lang/Math", "min", "(II)I"⟩ : MethodName)) hown (mvT hZ (hw _ (List.mem_of_getElem? (i := 39) rfl))) (mvT hZ (hw _ (List.mem_of_getElem? (i := 23) rfl))) (mvT hZ (hw _ (List.mem_of_getElem? (i := 24) rfl))) (mvT hZ (hw _ (List.mem_of_getElem? (i := 25) rfl))) (by decide) (backOf (W := 4) (rmin_t l Z a0 hw [] (100 : Int32) (3 : Int32) h2 n0 (Nat.le_trans Z0 E2.1) (by first | assumption | decide)) hZ (hw _ (List.mem_of_getElem? (i := 25) rfl)) (hw _ (List.mem_of_getElem? (i := 24) rfl)) (by decide) (by decide)) (g := (mkF m 25 #[.val (.ref na), .val (.int (3 : Int32)), .val (.ref b2)] [(.int (3 : Int32)), (.int (100 : Int32)), (.int (0 : Int32)), (.ref b2), (.int (0 : Int32)), (.ref na)])) rfl (by rw [hml]; rfl) (argsL := [(.int (100 : Int32)), (.int (3 : Int32))]) (rest := [(.int (0 : Int32)), (.ref b2), (.int (0 : Int32)), (.ref na)]) (lenOf pd_0 rfl) rfl (by show 2 * 0 + _ ≤ _; exact Nat.le_of_eq rfl) (hb hby d8_25) (fun _ _ => ⟨rfl, e2, (by decide : 1 + 0 ≤ _), (by decide : 3 + 0 ≤ _)⟩)
  dsimp only [Pt.U, Pt.locs, Pt.cells, Pt.slots] at X5 l5 y5 z5 st5 hQ5
  subst l5 y5 z5
  obtain ⟨rfl, Nq5, e5⟩ := hQ5
  have N5 := Fr.app N0 Nq5
  obtain ⟨T6, h6, lo6, X6, e6, N6, Kp6, Va6, st6⟩ := cpA X5 hx hZ hown (hw _ (List.mem_of_getElem? (i := 40) rfl)) (hw _ (List.mem_of_getElem? (i := 43) rfl)) (hw _ (List.mem_of_getElem? (i := 41) rfl)) (hw _ (List.mem_of_getElem? (i := 42) rfl)) e5 f3 V2 (Or.inl ⟨rfl, rfl⟩) (by decide) (by decide) (by decide) (by decide) (by decide) (us := [(.long x0), (.long x1), (.long x2)]) rfl (by decide) N5 (Nat.le_trans Z0 (Nat.le_of_eq g2.symm)) (g := (mkF m 28 #[.val (.ref na), .val (.int (3 : Int32)), .val (.ref b2)] [(.int (3 : Int32)), (.int (0 : Int32)), (.ref b2), (.int (0 : Int32)), (.ref na)])) rfl (by rw [hml]; rfl) (rest := []) rfl (hb hby d8_28) (by decide) (W := 0) (by show 2 * 0 + _ ≤ _; exact Nat.le_of_eq rfl) (by decide)
  have Vb6 : Arv Z h6 b2 k2 .long (3 : Int32) [(.long x0), (.long x1), (.long x2)] (.long (0 : Int64)) := Va6
  obtain ⟨fs, hr, hrun, hended, hW, hsame⟩ := X6.leave (v := some (.ref b2)) (fun h => by rw [Bd.returns] at h; cases h)
  refine ⟨_, _, pre0 _ ?_, hrun, hended, _, _, rfl, ?_, ⟨_, rfl⟩, hW, hsame.mono (by decide) (by decide)⟩
  · show Steps p.tables e below (s₁.setTop (mkF m 0 #[.val (.ref na), .val (.int (3 : Int32)), .unset] [])) _
    refine XS.iloadN X0.here hx rfl (hb hby d8_0) rfl ?_
    show Steps p.tables e below (s₁.setTop (mkF m 1 #[.val (.ref na), .val (.int (3 : Int32)), .unset] [(.int (3 : Int32))])) _
    refine XS.aloadN X0.here hx rfl (hb hby d8_1) rfl rfl ?_
    show Steps p.tables e below (s₁.setTop (mkF m 2 #[.val (.ref na), .val (.int (3 : Int32)), .unset] [(.ref na), (.int (3 : Int32))])) _
    refine X0.arraylength hx (cell := cl1) (by rw [e0]; exact Ar1.1) (State.isArrayOf_alike hZ.alike Ar1.2.1) (g := (mkF m 2 #[.val (.ref na), .val (.int (3 : Int32)), .unset] [(.ref na), (.int (3 : Int32))])) rfl (rest := [(.int (3 : Int32))]) rfl (hb hby d8_2) _ ?_
    rw [len_of S1 M1]
    show Steps p.tables e below (s₁.setTop (mkF m 3 #[.val (.ref na), .val (.int (3 : Int32)), .unset] [(.int (100 : Int32)), (.int (3 : Int32))])) _
    refine XS.icmpYes X0.here hx rfl (pc0 := 3) (pc' := 14) rfl (hb hby d8_3) rfl (feq (by decide : ¬ ((3 : Int32) = (100 : Int32)))).2 (by decide) (by decide) ?_
    show Steps p.tables e below (s₁.setTop (mkF m 14 #[.val (.ref na), .val (.int (3 : Int32)), .unset] [])) _
    refine XS.iloadN X0.here hx rfl (hb hby d8_14) rfl ?_
    show Steps p.tables e below (s₁.setTop (mkF m 15 #[.val (.ref na), .val (.int (3 : Int32)), .unset] [(.int (3 : Int32))])) _
    refine st2 _ ?_
    show Steps p.tables e below (T2.setTop (mkF m 17 #[.val (.ref na), .val (.int (3 : Int32)), .unset] [(.ref b2)])) _
    refine XS.astoreN X2.here hx rfl (hb hby d8_17) rfl rfl (l' := #[.val (.ref na), .val (.int (3 : Int32)), .val (.ref b2)]) rfl ?_
    show Steps p.tables e below (T2.setTop (mkF m 18 #[.val (.ref na), .val (.int (3 : Int32)), .val (.ref b2)] [])) _
    refine XS.aloadN X2.here hx rfl (hb hby d8_18) rfl rfl ?_
    show Steps p.tables e below (T2.setTop (mkF m 19 #[.val (.ref na), .val (.int (3 : Int32)), .val (.ref b2)] [(.ref na)])) _
    refine XS.iconst X2.here hx rfl (hb hby d8_19) ?_
    show Steps p.tables e below (T2.setTop (mkF m 20 #[.val (.ref na), .val (.int (3 : Int32)), .val (.ref b2)] [(.int (0 : Int32)), (.ref na)])) _
    refine XS.aloadN X2.here hx rfl (hb hby d8_20) rfl rfl ?_
    show Steps p.tables e below (T2.setTop (mkF m 21 #[.val (.ref na), .val (.int (3 : Int32)), .val (.ref b2)] [(.ref b2), (.int (0 : Int32)), (.ref na)])) _
    refine XS.iconst X2.here hx rfl (hb hby d8_21) ?_
    show Steps p.tables e below (T2.setTop (mkF m 22 #[.val (.ref na), .val (.int (3 : Int32)), .val (.ref b2)] [(.int (0 : Int32)), (.ref b2), (.int (0 : Int32)), (.ref na)])) _
    refine XS.aloadN X2.here hx rfl (hb hby d8_22) rfl rfl ?_
    show Steps p.tables e below (T2.setTop (mkF m 23 #[.val (.ref na), .val (.int (3 : Int32)), .val (.ref b2)] [(.ref na), (.int (0 : Int32)), (.ref b2), (.int (0 : Int32)), (.ref na)])) _
    refine X2.arraylength hx (cell := cl4) (by rw [e2]; exact Ar4.1) (State.isArrayOf_alike hZ.alike Ar4.2.1) (g := (mkF m 23 #[.val (.ref na), .val (.int (3 : Int32)), .val (.ref b2)] [(.ref na), (.int (0 : Int32)), (.ref b2), (.int (0 : Int32)), (.ref na)])) rfl (rest := [(.int (0 : Int32)), (.ref b2), (.int (0 : Int32)), (.ref na)]) rfl (hb hby d8_23) _ ?_
    rw [len_of S4 M4]
    show Steps p.tables e below (T2.setTop (mkF m 24 #[.val (.ref na), .val (.int (3 : Int32)), .val (.ref b2)] [(.int (100 : Int32)), (.int (0 : Int32)), (.ref b2), (.int (0 : Int32)), (.ref na)])) _
    refine XS.iloadN X2.here hx rfl (hb hby d8_24) rfl ?_
    show Steps p.tables e below (T2.setTop (mkF m 25 #[.val (.ref na), .val (.int (3 : Int32)), .val (.ref b2)] [(.int (3 : Int32)), (.int (100 : Int32)), (.int (0 : Int32)), (.ref b2), (.int (0 : Int32)), (.ref na)])) _
    refine st5 _ ?_
    show Steps p.tables e below (T5.setTop (mkF m 28 #[.val (.ref na), .val (.int (3 : Int32)), .val (.ref b2)] [(.int (3 : Int32)), (.int (0 : Int32)), (.ref b2), (.int (0 : Int32)), (.ref na)])) _
    refine st6 _ ?_
    show Steps p.tables e below (T6.setTop (mkF m 31 #[.val (.ref na), .val (.int (3 : Int32)), .val (.ref b2)] [])) _
    refine XS.aloadN X6.here hx rfl (hb hby d8_31) rfl rfl ?_
    show Steps p.tables e below (T6.setTop (mkF m 32 #[.val (.ref na), .val (.int (3 : Int32)), .val (.ref b2)] [(.ref b2)])) _
    exact retOut X6 hx Bd.returns rfl (Or.inr (Or.inr (Or.inr (Or.inr ⟨rfl, rfl, rfl⟩)))) (hb hby d8_32) hr
  · show Q_rmC3 Z na ka x0 x1 x2 x3 h0 n0 _ T6.heap _
    rw [e6]
    exact ⟨b2, k2, rfl, N6, (Nat.le_trans (Nat.le_refl h0.size) (Nat.le_of_eq g2.symm)), (((Keep.refl h0 []).ext E2).trans Kp6 (allS (Or.inr (Nat.le_trans (Nat.le_refl h0.size) (Nat.le_of_eq g2.symm))) all0)), Vb6⟩
def Q_rmC4 (Z : State) (na : Addr) (ka : ClassId) (x0 : Int64) (x1 : Int64) (x2 : Int64) (x3 : Int64) (h0 : Heap) (n0 : Nat) (v : Option Value) (h : Heap) (L : List Loc) : Prop := ∃ nb : Addr, ∃ kb : ClassId, v = some (.ref nb) ∧ Fr n0 L ∧ h0.size ≤ nb ∧ Keep h0 h [] ∧ Arv Z h nb kb .long (4 : Int32) [(.long x0), (.long x1), (.long x2), (.long x3)] (.long (0 : Int64))
theorem ef_rmC4 (m : MethodId) (na : Addr) : entryFrame m #[(.ref na), (.int (4 : Int32))] 3 = mkF m 0 #[.val (.ref na), .val (.int (4 : Int32)), .unset] [] := by first | (simp [entryFrame, mkF, argsToLocals, Value.category]; done) | rfl
set_option maxRecDepth 65536 in
set_option maxHeartbeats 40000000 in
theorem rmC4 (l : Launch) (Z : State) (a0 : Array Value) (hw : ∀ d ∈ tables_1, d.before a0 Z = true) (ws : List Jvm.Cond) (na : Addr) (ka : ClassId) (x0 : Int64) (x1 : Int64) (x2 : Int64) (x3 : Int64) (h0 : Heap) (n0 : Nat) (Z0 : n0 ≤ h0.size) (V_na : Arv Z h0 na ka .long (100 : Int32) [(.long x0), (.long x1), (.long x2), (.long x3)] (.long (0 : Int64))) :
    MetFree l (⟨"java/util/Arrays", "copyOf", "([JI)[J"⟩ : MethodName) (head1 (Jvm.Cond.code (⟨"java/util/Arrays", "copyOf", "([JI)[J"⟩ : MethodName) jdk_65_method_124_code 3 (some (.array .long)) :: ws) ({ frames := 1, cells := 1, slots := 4, locals := 64 } : Room)) (fun a U => a = #[(.ref na), (.int (4 : Int32))] ∧ Z.Warmed39 U.vm ∧ U.heap = h0) (fun _ _ _ _ _ => True) (fun _ U o U' => ∃ v L, o = .returned v ∧ Q_rmC4 Z na ka x0 x1 x2 x3 h0 n0 v U'.heap L ∧ FrameEnd U o U' L ({ frames := 1, cells := 1, slots := 4, locals := 64 } : Room).cells ({ frames := 1, cells := 1, slots := 4, locals := 64 } : Room).slots) := by
  refine MetFree.of_bodySF (plainFor_of_name pn_2) hisR ?_
  intro p e s m args below meth c s₁ Bd hml0 hP hK
  obtain ⟨rfl, hZ, hh⟩ := hP
  have hx := Bd.exec
  have hby := Bd.bytes
  have hml : c.maxLocals = 3 := hml0
  have hown : s.vm.findClass "java/util/Arrays" = some m.cls := findClass_of_methodNamed Bd.named
  have hnm := (name_of_methodNamed Bd.named Bd.method).1
  have X0 : Stand p l e ({ frames := 1, cells := 1, slots := 4, locals := 64 } : Room) s m #[(.ref na), (.int (4 : Int32))] below meth c s₁ [] 0 0 := Stand.of_body Bd
  have e0 : s₁.heap = h0 := by rw [← hh, Bd.state]; rfl
  have N0 := Fr.nil n0
  have pre0 : ∀ t, Steps p.tables e below (s₁.setTop (mkF m 0 #[.val (.ref na), .val (.int (4 : Int32)), .unset] [])) t → Steps p.tables e below (s₁.setTop (entryFrame m #[(.ref na), (.int (4 : Int32))] 3)) t := fun t k => castTop (ef_rmC4 m na) k
  have Vc1 := V_na
  obtain ⟨cl1, Ar1, -, S1, M1, -, -⟩ := Vc1
  obtain ⟨T2, h2, k2, X2, e2, E2, A2, st2⟩ := newP X0 hx hZ (hw _ (List.mem_of_getElem? (i := 10) rfl)) e0 (g := (mkF m 15 #[.val (.ref na), .val (.int (4 : Int32)), .unset] [(.int (4 : Int32))])) rfl (hb hby d8_15) rfl (by decide) (cap := 4) (by decide) (by decide) (by decide) (by decide)
  obtain ⟨b2, g2⟩ : ∃ z, z = h0.size := ⟨_, rfl⟩
  rw [← g2] at A2 st2
  have V2 : Arv Z h2 b2 k2 .long (4 : Int32) [(.long (0 : Int64)), (.long (0 : Int64)), (.long (0 : Int64)), (.long (0 : Int64))] (.long (0 : Int64)) := (Arv.new A2 (by decide)).pad (pad_rep [] (.long (0 : Int64)) 4)
  have f3 : Arv Z h2 na ka .long (100 : Int32) [(.long x0), (.long x1), (.long x2), (.long x3)] (.long (0 : Int64)) := (V_na.ext E2)
  have Vc4 := f3
  obtain ⟨cl4, Ar4, -, S4, M4, -, -⟩ := Vc4
  obtain ⟨_, _, ⟨T5, L5, k5, n5⟩, -, X5, ⟨Lc5, hQ5, l5, y5, z5⟩, st5⟩ := Jvm.LawKit.callS X2 hx (y := (⟨"java/lang/Math", "min", "(II)I"⟩ : MethodName)) hown (mvT hZ (hw _ (List.mem_of_getElem? (i := 39) rfl))) (mvT hZ (hw _ (List.mem_of_getElem? (i := 23) rfl))) (mvT hZ (hw _ (List.mem_of_getElem? (i := 24) rfl))) (mvT hZ (hw _ (List.mem_of_getElem? (i := 25) rfl))) (by decide) (backOf (W := 4) (rmin_t l Z a0 hw [] (100 : Int32) (4 : Int32) h2 n0 (Nat.le_trans Z0 E2.1) (by first | assumption | decide)) hZ (hw _ (List.mem_of_getElem? (i := 25) rfl)) (hw _ (List.mem_of_getElem? (i := 24) rfl)) (by decide) (by decide)) (g := (mkF m 25 #[.val (.ref na), .val (.int (4 : Int32)), .val (.ref b2)] [(.int (4 : Int32)), (.int (100 : Int32)), (.int (0 : Int32)), (.ref b2), (.int (0 : Int32)), (.ref na)])) rfl (by rw [hml]; rfl) (argsL := [(.int (100 : Int32)), (.int (4 : Int32))]) (rest := [(.int (0 : Int32)), (.ref b2), (.int (0 : Int32)), (.ref na)]) (lenOf pd_0 rfl) rfl (by show 2 * 0 + _ ≤ _; exact Nat.le_of_eq rfl) (hb hby d8_25) (fun _ _ => ⟨rfl, e2, (by decide : 1 + 0 ≤ _), (by decide : 4 + 0 ≤ _)⟩)
  dsimp only [Pt.U, Pt.locs, Pt.cells, Pt.slots] at X5 l5 y5 z5 st5 hQ5
  subst l5 y5 z5
  obtain ⟨rfl, Nq5, e5⟩ := hQ5
  have N5 := Fr.app N0 Nq5
  obtain ⟨T6, h6, lo6, X6, e6, N6, Kp6, Va6, st6⟩ := cpA X5 hx hZ hown (hw _ (List.mem_of_getElem? (i := 40) rfl)) (hw _ (List.mem_of_getElem? (i := 43) rfl)) (hw _ (List.mem_of_getElem? (i := 41) rfl)) (hw _ (List.mem_of_getElem? (i := 42) rfl)) e5 f3 V2 (Or.inl ⟨rfl, rfl⟩) (by decide) (by decide) (by decide) (by decide) (by decide) (us := [(.long x0), (.long x1), (.long x2), (.long x3)]) rfl (by decide) N5 (Nat.le_trans Z0 (Nat.le_of_eq g2.symm)) (g := (mkF m 28 #[.val (.ref na), .val (.int (4 : Int32)), .val (.ref b2)] [(.int (4 : Int32)), (.int (0 : Int32)), (.ref b2), (.int (0 : Int32)), (.ref na)])) rfl (by rw [hml]; rfl) (rest := []) rfl (hb hby d8_28) (by decide) (W := 0) (by show 2 * 0 + _ ≤ _; exact Nat.le_of_eq rfl) (by decide)
  have Vb6 : Arv Z h6 b2 k2 .long (4 : Int32) [(.long x0), (.long x1), (.long x2), (.long x3)] (.long (0 : Int64)) := Va6
  obtain ⟨fs, hr, hrun, hended, hW, hsame⟩ := X6.leave (v := some (.ref b2)) (fun h => by rw [Bd.returns] at h; cases h)
  refine ⟨_, _, pre0 _ ?_, hrun, hended, _, _, rfl, ?_, ⟨_, rfl⟩, hW, hsame.mono (by decide) (by decide)⟩
  · show Steps p.tables e below (s₁.setTop (mkF m 0 #[.val (.ref na), .val (.int (4 : Int32)), .unset] [])) _
    refine XS.iloadN X0.here hx rfl (hb hby d8_0) rfl ?_
    show Steps p.tables e below (s₁.setTop (mkF m 1 #[.val (.ref na), .val (.int (4 : Int32)), .unset] [(.int (4 : Int32))])) _
    refine XS.aloadN X0.here hx rfl (hb hby d8_1) rfl rfl ?_
    show Steps p.tables e below (s₁.setTop (mkF m 2 #[.val (.ref na), .val (.int (4 : Int32)), .unset] [(.ref na), (.int (4 : Int32))])) _
    refine X0.arraylength hx (cell := cl1) (by rw [e0]; exact Ar1.1) (State.isArrayOf_alike hZ.alike Ar1.2.1) (g := (mkF m 2 #[.val (.ref na), .val (.int (4 : Int32)), .unset] [(.ref na), (.int (4 : Int32))])) rfl (rest := [(.int (4 : Int32))]) rfl (hb hby d8_2) _ ?_
    rw [len_of S1 M1]
    show Steps p.tables e below (s₁.setTop (mkF m 3 #[.val (.ref na), .val (.int (4 : Int32)), .unset] [(.int (100 : Int32)), (.int (4 : Int32))])) _
    refine XS.icmpYes X0.here hx rfl (pc0 := 3) (pc' := 14) rfl (hb hby d8_3) rfl (feq (by decide : ¬ ((4 : Int32) = (100 : Int32)))).2 (by decide) (by decide) ?_
    show Steps p.tables e below (s₁.setTop (mkF m 14 #[.val (.ref na), .val (.int (4 : Int32)), .unset] [])) _
    refine XS.iloadN X0.here hx rfl (hb hby d8_14) rfl ?_
    show Steps p.tables e below (s₁.setTop (mkF m 15 #[.val (.ref na), .val (.int (4 : Int32)), .unset] [(.int (4 : Int32))])) _
    refine st2 _ ?_
    show Steps p.tables e below (T2.setTop (mkF m 17 #[.val (.ref na), .val (.int (4 : Int32)), .unset] [(.ref b2)])) _
    refine XS.astoreN X2.here hx rfl (hb hby d8_17) rfl rfl (l' := #[.val (.ref na), .val (.int (4 : Int32)), .val (.ref b2)]) rfl ?_
    show Steps p.tables e below (T2.setTop (mkF m 18 #[.val (.ref na), .val (.int (4 : Int32)), .val (.ref b2)] [])) _
    refine XS.aloadN X2.here hx rfl (hb hby d8_18) rfl rfl ?_
    show Steps p.tables e below (T2.setTop (mkF m 19 #[.val (.ref na), .val (.int (4 : Int32)), .val (.ref b2)] [(.ref na)])) _
    refine XS.iconst X2.here hx rfl (hb hby d8_19) ?_
    show Steps p.tables e below (T2.setTop (mkF m 20 #[.val (.ref na), .val (.int (4 : Int32)), .val (.ref b2)] [(.int (0 : Int32)), (.ref na)])) _
    refine XS.aloadN X2.here hx rfl (hb hby d8_20) rfl rfl ?_
    show Steps p.tables e below (T2.setTop (mkF m 21 #[.val (.ref na), .val (.int (4 : Int32)), .val (.ref b2)] [(.ref b2), (.int (0 : Int32)), (.ref na)])) _
    refine XS.iconst X2.here hx rfl (hb hby d8_21) ?_
    show Steps p.tables e below (T2.setTop (mkF m 22 #[.val (.ref na), .val (.int (4 : Int32)), .val (.ref b2)] [(.int (0 : Int32)), (.ref b2), (.int (0 : Int32)), (.ref na)])) _
    refine XS.aloadN X2.here hx rfl (hb hby d8_22) rfl rfl ?_
    show Steps p.tables e below (T2.setTop (mkF m 23 #[.val (.ref na), .val (.int (4 : Int32)), .val (.ref b2)] [(.ref na), (.int (0 : Int32)), (.ref b2), (.int (0 : Int32)), (.ref na)])) _
    refine X2.arraylength hx (cell := cl4) (by rw [e2]; exact Ar4.1) (State.isArrayOf_alike hZ.alike Ar4.2.1) (g := (mkF m 23 #[.val (.ref na), .val (.int (4 : Int32)), .val (.ref b2)] [(.ref na), (.int (0 : Int32)), (.ref b2), (.int (0 : Int32)), (.ref na)])) rfl (rest := [(.int (0 : Int32)), (.ref b2), (.int (0 : Int32)), (.ref na)]) rfl (hb hby d8_23) _ ?_
    rw [len_of S4 M4]
    show Steps p.tables e below (T2.setTop (mkF m 24 #[.val (.ref na), .val (.int (4 : Int32)), .val (.ref b2)] [(.int (100 : Int32)), (.int (0 : Int32)), (.ref b2), (.int (0 : Int32)), (.ref na)])) _
    refine XS.iloadN X2.here hx rfl (hb hby d8_24) rfl ?_
    show Steps p.tables e below (T2.setTop (mkF m 25 #[.val (.ref na), .val (.int (4 : Int32)), .val (.ref b2)] [(.int (4 : Int32)), (.int (100 : Int32)), (.int (0 : Int32)), (.ref b2), (.int (0 : Int32)), (.ref na)])) _
    refine st5 _ ?_
    show Steps p.tables e below (T5.setTop (mkF m 28 #[.val (.ref na), .val (.int (4 : Int32)), .val (.ref b2)] [(.int (4 : Int32)), (.int (0 : Int32)), (.ref b2), (.int (0 : Int32)), (.ref na)])) _
    refine st6 _ ?_
    show Steps p.tables e below (T6.setTop (mkF m 31 #[.val (.ref na), .val (.int (4 : Int32)), .val (.ref b2)] [])) _
    refine XS.aloadN X6.here hx rfl (hb hby d8_31) rfl rfl ?_
    show Steps p.tables e below (T6.setTop (mkF m 32 #[.val (.ref na), .val (.int (4 : Int32)), .val (.ref b2)] [(.ref b2)])) _
    exact retOut X6 hx Bd.returns rfl (Or.inr (Or.inr (Or.inr (Or.inr ⟨rfl, rfl, rfl⟩)))) (hb hby d8_32) hr
  · show Q_rmC4 Z na ka x0 x1 x2 x3 h0 n0 _ T6.heap _
    rw [e6]
    exact ⟨b2, k2, rfl, N6, (Nat.le_trans (Nat.le_refl h0.size) (Nat.le_of_eq g2.symm)), (((Keep.refl h0 []).ext E2).trans Kp6 (allS (Or.inr (Nat.le_trans (Nat.le_refl h0.size) (Nat.le_of_eq g2.symm))) all0)), Vb6⟩
theorem d9_0 : decode prog_14_method_2_code 0 = .ok (.iload_n 1, 1) := by decide +kernel
theorem d9_1 : decode prog_14_method_2_code 1 = .ok (.iconst 1, 1) := by decide +kernel
theorem d9_2 : decode prog_14_method_2_code 2 = .ok (.if_icmp .lt 9, 3) := by decide +kernel
theorem d9_5 : decode prog_14_method_2_code 5 = .ok (.iload_n 1, 1) := by decide +kernel
theorem d9_6 : decode prog_14_method_2_code 6 = .ok (.aload_n 0, 1) := by decide +kernel
theorem d9_7 : decode prog_14_method_2_code 7 = .ok (.arraylength, 1) := by decide +kernel
theorem d9_8 : decode prog_14_method_2_code 8 = .ok (.if_icmp .le 19, 3) := by decide +kernel
theorem d9_27 : decode prog_14_method_2_code 27 = .ok (.iload_n 2, 1) := by decide +kernel
theorem d9_28 : decode prog_14_method_2_code 28 = .ok (.iconst 1, 1) := by decide +kernel
theorem d9_29 : decode prog_14_method_2_code 29 = .ok (.if_icmp .lt 9, 3) := by decide +kernel
theorem d9_32 : decode prog_14_method_2_code 32 = .ok (.iload_n 2, 1) := by decide +kernel
theorem d9_33 : decode prog_14_method_2_code 33 = .ok (.bipush 100, 2) := by decide +kernel
theorem d9_35 : decode prog_14_method_2_code 35 = .ok (.if_icmp .le 17, 3) := by decide +kernel
theorem d9_52 : decode prog_14_method_2_code 52 = .ok (.aload_n 0, 1) := by decide +kernel
theorem d9_53 : decode prog_14_method_2_code 53 = .ok (.iload_n 1, 1) := by decide +kernel
theorem d9_54 : decode prog_14_method_2_code 54 = .ok (.invokestatic 19, 3) := by decide +kernel
theorem pd_4 : parseMethodDescriptor "([JI)[J" = some ⟨[(.array .long), .int], some (.array .long)⟩ := by decide +kernel
theorem d9_57 : decode prog_14_method_2_code 57 = .ok (.astore_n 3, 1) := by decide +kernel
theorem d9_58 : decode prog_14_method_2_code 58 = .ok (.aload_n 3, 1) := by decide +kernel
theorem d9_59 : decode prog_14_method_2_code 59 = .ok (.invokestatic 25, 3) := by decide +kernel
theorem pd_5 : parseMethodDescriptor "([J)V" = some ⟨[(.array .long)], none⟩ := by decide +kernel
theorem d9_62 : decode prog_14_method_2_code 62 = .ok (.iload_n 2, 1) := by decide +kernel
theorem d9_63 : decode prog_14_method_2_code 63 = .ok (.i2l, 1) := by decide +kernel
theorem d9_64 : decode prog_14_method_2_code 64 = .ok (.iload_n 1, 1) := by decide +kernel
theorem d9_65 : decode prog_14_method_2_code 65 = .ok (.i2l, 1) := by decide +kernel
theorem d9_66 : decode prog_14_method_2_code 66 = .ok (.lmul, 1) := by decide +kernel
theorem d9_67 : decode prog_14_method_2_code 67 = .ok (.ldc2_w 29, 3) := by decide +kernel
theorem d9_70 : decode prog_14_method_2_code 70 = .ok (.ladd, 1) := by decide +kernel
theorem d9_71 : decode prog_14_method_2_code 71 = .ok (.ldc2_w 31, 3) := by decide +kernel
theorem d9_74 : decode prog_14_method_2_code 74 = .ok (.ldiv, 1) := by decide +kernel
theorem d9_75 : decode prog_14_method_2_code 75 = .ok (.lstore 4, 2) := by decide +kernel
theorem d9_77 : decode prog_14_method_2_code 77 = .ok (.aload_n 3, 1) := by decide +kernel
theorem d9_78 : decode prog_14_method_2_code 78 = .ok (.lload 4, 2) := by decide +kernel
theorem d9_80 : decode prog_14_method_2_code 80 = .ok (.l2i, 1) := by decide +kernel
theorem d9_81 : decode prog_14_method_2_code 81 = .ok (.iconst 1, 1) := by decide +kernel
theorem d9_82 : decode prog_14_method_2_code 82 = .ok (.isub, 1) := by decide +kernel
theorem d9_83 : decode prog_14_method_2_code 83 = .ok (.laload, 1) := by decide +kernel
theorem d9_84 : decode prog_14_method_2_code 84 = .ok (.lreturn, 1) := by decide +kernel
theorem pn_3 : plainName "com/example/tolc/tolc/Percentiles" = true := by first | (simp [plainName, overriddenIn]; done) | decide +kernel
def Q_rmN1 (Z : State) (na : Addr) (ka : ClassId) (x0 : Int64) (x1 : Int64) (x2 : Int64) (x3 : Int64) (h0 : Heap) (n0 : Nat) (v : Option Value) (h : Heap) (L : List Loc) : Prop := v = some (.long x0) ∧ Fr n0 L ∧ Keep h0 h [] ∧ Arv Z h na ka .long (100 : Int32) [(.long x0), (.long x1), (.long x2), (.long x3)] (.long (0 : Int64))
theorem ef_rmN1 (m : MethodId) (na : Addr) : entryFrame m #[(.ref na), (.int (1 : Int32)), (.int (90 : Int32))] 6 = mkF m 0 #[.val (.ref na), .val (.int (1 : Int32)), .val (.int (90 : Int32)), .unset, .unset, .unset] [] := by first | (simp [entryFrame, mkF, argsToLocals, Value.category]; done) | rfl
set_option maxRecDepth 65536 in
set_option maxHeartbeats 40000000 in
theorem rmN1 (l : Launch) (Z : State) (a0 : Array Value) (hw : ∀ d ∈ tables_1, d.before a0 Z = true) (ws : List Jvm.Cond) (na : Addr) (ka : ClassId) (x0 : Int64) (x1 : Int64) (x2 : Int64) (x3 : Int64) (h0 : Heap) (n0 : Nat) (Z0 : n0 ≤ h0.size) (V_na : Arv Z h0 na ka .long (100 : Int32) [(.long x0), (.long x1), (.long x2), (.long x3)] (.long (0 : Int64))) :
    MetFree l (⟨"com/example/tolc/tolc/Percentiles", "nearestRank", "([JII)J"⟩ : MethodName) (head1 (Jvm.Cond.code (⟨"com/example/tolc/tolc/Percentiles", "nearestRank", "([JII)J"⟩ : MethodName) prog_14_method_2_code 6 (some .long) :: ws) ({ frames := 4, cells := 1, slots := 1, locals := 84 } : Room)) (fun a U => a = #[(.ref na), (.int (1 : Int32)), (.int (90 : Int32))] ∧ Z.Warmed39 U.vm ∧ U.heap = h0) (fun _ _ _ _ _ => True) (fun _ U o U' => ∃ v L, o = .returned v ∧ Q_rmN1 Z na ka x0 x1 x2 x3 h0 n0 v U'.heap L ∧ FrameEnd U o U' L ({ frames := 4, cells := 1, slots := 1, locals := 84 } : Room).cells ({ frames := 4, cells := 1, slots := 1, locals := 84 } : Room).slots) := by
  refine MetFree.of_bodySF (plainFor_of_name pn_3) hisR ?_
  intro p e s m args below meth c s₁ Bd hml0 hP hK
  obtain ⟨rfl, hZ, hh⟩ := hP
  have hx := Bd.exec
  have hby := Bd.bytes
  have hml : c.maxLocals = 6 := hml0
  have hown : s.vm.findClass "com/example/tolc/tolc/Percentiles" = some m.cls := findClass_of_methodNamed Bd.named
  have hnm := (name_of_methodNamed Bd.named Bd.method).1
  have X0 : Stand p l e ({ frames := 4, cells := 1, slots := 1, locals := 84 } : Room) s m #[(.ref na), (.int (1 : Int32)), (.int (90 : Int32))] below meth c s₁ [] 0 0 := Stand.of_body Bd
  have e0 : s₁.heap = h0 := by rw [← hh, Bd.state]; rfl
  have N0 := Fr.nil n0
  have pre0 : ∀ t, Steps p.tables e below (s₁.setTop (mkF m 0 #[.val (.ref na), .val (.int (1 : Int32)), .val (.int (90 : Int32)), .unset, .unset, .unset] [])) t → Steps p.tables e below (s₁.setTop (entryFrame m #[(.ref na), (.int (1 : Int32)), (.int (90 : Int32))] 6)) t := fun t k => castTop (ef_rmN1 m na) k
  have Vc1 := V_na
  obtain ⟨cl1, Ar1, -, S1, M1, -, -⟩ := Vc1
  obtain ⟨_, _, ⟨T2, L2, k2, n2⟩, -, X2, ⟨Lc2, hQ2, l2, y2, z2⟩, st2⟩ := Jvm.LawKit.callS X0 hx (y := (⟨"java/util/Arrays", "copyOf", "([JI)[J"⟩ : MethodName)) hown (mvT hZ (hw _ (List.mem_of_getElem? (i := 35) rfl))) (mvT hZ (hw _ (List.mem_of_getElem? (i := 36) rfl))) (mvT hZ (hw _ (List.mem_of_getElem? (i := 37) rfl))) (mvT hZ (hw _ (List.mem_of_getElem? (i := 38) rfl))) (by decide) (backOf (W := 0) (rmC1 l Z a0 hw [] na ka x0 x1 x2 x3 h0 n0 Z0 V_na) hZ (hw _ (List.mem_of_getElem? (i := 38) rfl)) (hw _ (List.mem_of_getElem? (i := 37) rfl)) (by decide) (by decide)) (g := (mkF m 54 #[.val (.ref na), .val (.int (1 : Int32)), .val (.int (90 : Int32)), .unset, .unset, .unset] [(.int (1 : Int32)), (.ref na)])) rfl (by rw [hml]; rfl) (argsL := [(.ref na), (.int (1 : Int32))]) (rest := []) (lenOf pd_4 rfl) rfl (by show 2 * 0 + _ ≤ _; exact Nat.le_of_eq rfl) (hb hby d9_54) (fun _ _ => ⟨rfl, e0, (by decide : 0 + 1 ≤ _), (by decide : 0 + 1 ≤ _)⟩)
  dsimp only [Pt.U, Pt.locs, Pt.cells, Pt.slots] at X2 l2 y2 z2 st2 hQ2
  subst l2 y2 z2
  obtain ⟨nb_2, kb_2, rfl, Nq2, gb2_0, Kp2, Fq2_0⟩ := hQ2
  have N2 := Fr.app N0 Nq2
  obtain ⟨_, _, ⟨T3, L3, k3, n3⟩, -, X3, ⟨Lc3, hQ3, l3, y3, z3⟩, st3⟩ := Jvm.LawKit.callS X2 hx (y := (⟨"java/util/Arrays", "sort", "([J)V"⟩ : MethodName)) hown (mvT hZ (hw _ (List.mem_of_getElem? (i := 44) rfl))) (mvT hZ (hw _ (List.mem_of_getElem? (i := 45) rfl))) (mvT hZ (hw _ (List.mem_of_getElem? (i := 37) rfl))) (mvT hZ (hw _ (List.mem_of_getElem? (i := 46) rfl))) (by decide) (backOf (W := 0) (rmS1_1 l Z a0 hw [] nb_2 kb_2 x0 T2.heap n0 (Nat.le_trans Z0 Kp2.1) Fq2_0) hZ (hw _ (List.mem_of_getElem? (i := 46) rfl)) (hw _ (List.mem_of_getElem? (i := 37) rfl)) (by decide) (by decide)) (g := (mkF m 59 #[.val (.ref na), .val (.int (1 : Int32)), .val (.int (90 : Int32)), .val (.ref nb_2), .unset, .unset] [(.ref nb_2)])) rfl (by rw [hml]; rfl) (argsL := [(.ref nb_2)]) (rest := []) (lenOf pd_5 rfl) rfl (by show 2 * 0 + _ ≤ _; exact Nat.le_of_eq rfl) (hb hby d9_59) (fun _ _ => ⟨rfl, rfl, (by decide : 1 + 0 ≤ _), (by decide : 1 + 0 ≤ _)⟩)
  dsimp only [Pt.U, Pt.locs, Pt.cells, Pt.slots] at X3 l3 y3 z3 st3 hQ3
  subst l3 y3 z3
  obtain ⟨rfl, Nq3, Kp3, Fq3_0⟩ := hQ3
  have N3 := Fr.app N2 Nq3
  have Vc4 := Fq3_0
  obtain ⟨cl4, Ar4, q4, S4, M4, H4, G4⟩ := Vc4
  have hin4 : ¬ ((0 : Int32) < 0 ∨ cl4.slots.size ≤ ((0 : Int32)).toNatClampNeg) := inb_of S4 ⟨by decide, by decide⟩
  have hat4 : cl4.slots[((0 : Int32)).toNatClampNeg]? = some (.long x0) := Has.at H4 hin4 rfl
  have f5 : Arv Z T3.heap na ka .long (100 : Int32) [(.long x0), (.long x1), (.long x2), (.long x3)] (.long (0 : Int64)) := ((V_na.keep Kp2 nin0).keep Kp3 (ninS (Nat.ne_of_lt (Nat.lt_of_lt_of_le V_na.lt gb2_0)) nin0))
  obtain ⟨fs, hr, hrun, hended, hW, hsame⟩ := X3.leave (v := some (.long x0)) (fun h => by rw [Bd.returns] at h; cases h)
  refine ⟨_, _, pre0 _ ?_, hrun, hended, _, _, rfl, ?_, ⟨_, rfl⟩, hW, hsame.mono (by decide) (by decide)⟩
  · show Steps p.tables e below (s₁.setTop (mkF m 0 #[.val (.ref na), .val (.int (1 : Int32)), .val (.int (90 : Int32)), .unset, .unset, .unset] [])) _
    refine XS.iloadN X0.here hx rfl (hb hby d9_0) rfl ?_
    show Steps p.tables e below (s₁.setTop (mkF m 1 #[.val (.ref na), .val (.int (1 : Int32)), .val (.int (90 : Int32)), .unset, .unset, .unset] [(.int (1 : Int32))])) _
    refine XS.iconst X0.here hx rfl (hb hby d9_1) ?_
    show Steps p.tables e below (s₁.setTop (mkF m 2 #[.val (.ref na), .val (.int (1 : Int32)), .val (.int (90 : Int32)), .unset, .unset, .unset] [(.int (1 : Int32)), (.int (1 : Int32))])) _
    refine XS.icmpNo X0.here hx rfl (hb hby d9_2) rfl (flt (by decide : ¬ ((1 : Int32) < (1 : Int32)))).1 ?_
    show Steps p.tables e below (s₁.setTop (mkF m 5 #[.val (.ref na), .val (.int (1 : Int32)), .val (.int (90 : Int32)), .unset, .unset, .unset] [])) _
    refine XS.iloadN X0.here hx rfl (hb hby d9_5) rfl ?_
    show Steps p.tables e below (s₁.setTop (mkF m 6 #[.val (.ref na), .val (.int (1 : Int32)), .val (.int (90 : Int32)), .unset, .unset, .unset] [(.int (1 : Int32))])) _
    refine XS.aloadN X0.here hx rfl (hb hby d9_6) rfl rfl ?_
    show Steps p.tables e below (s₁.setTop (mkF m 7 #[.val (.ref na), .val (.int (1 : Int32)), .val (.int (90 : Int32)), .unset, .unset, .unset] [(.ref na), (.int (1 : Int32))])) _
    refine X0.arraylength hx (cell := cl1) (by rw [e0]; exact Ar1.1) (State.isArrayOf_alike hZ.alike Ar1.2.1) (g := (mkF m 7 #[.val (.ref na), .val (.int (1 : Int32)), .val (.int (90 : Int32)), .unset, .unset, .unset] [(.ref na), (.int (1 : Int32))])) rfl (rest := [(.int (1 : Int32))]) rfl (hb hby d9_7) _ ?_
    rw [len_of S1 M1]
    show Steps p.tables e below (s₁.setTop (mkF m 8 #[.val (.ref na), .val (.int (1 : Int32)), .val (.int (90 : Int32)), .unset, .unset, .unset] [(.int (100 : Int32)), (.int (1 : Int32))])) _
    refine XS.icmpYes X0.here hx rfl (pc0 := 8) (pc' := 27) rfl (hb hby d9_8) rfl (flt (by decide : ¬ ((100 : Int32) < (1 : Int32)))).2.2.2 (by decide) (by decide) ?_
    show Steps p.tables e below (s₁.setTop (mkF m 27 #[.val (.ref na), .val (.int (1 : Int32)), .val (.int (90 : Int32)), .unset, .unset, .unset] [])) _
    refine XS.iloadN X0.here hx rfl (hb hby d9_27) rfl ?_
    show Steps p.tables e below (s₁.setTop (mkF m 28 #[.val (.ref na), .val (.int (1 : Int32)), .val (.int (90 : Int32)), .unset, .unset, .unset] [(.int (90 : Int32))])) _
    refine XS.iconst X0.here hx rfl (hb hby d9_28) ?_
    show Steps p.tables e below (s₁.setTop (mkF m 29 #[.val (.ref na), .val (.int (1 : Int32)), .val (.int (90 : Int32)), .unset, .unset, .unset] [(.int (1 : Int32)), (.int (90 : Int32))])) _
    refine XS.icmpNo X0.here hx rfl (hb hby d9_29) rfl (flt (by decide : ¬ ((90 : Int32) < (1 : Int32)))).1 ?_
    show Steps p.tables e below (s₁.setTop (mkF m 32 #[.val (.ref na), .val (.int (1 : Int32)), .val (.int (90 : Int32)), .unset, .unset, .unset] [])) _
    refine XS.iloadN X0.here hx rfl (hb hby d9_32) rfl ?_
    show Steps p.tables e below (s₁.setTop (mkF m 33 #[.val (.ref na), .val (.int (1 : Int32)), .val (.int (90 : Int32)), .unset, .unset, .unset] [(.int (90 : Int32))])) _
    refine XS.bipush X0.here hx rfl (hb hby d9_33) ?_
    show Steps p.tables e below (s₁.setTop (mkF m 35 #[.val (.ref na), .val (.int (1 : Int32)), .val (.int (90 : Int32)), .unset, .unset, .unset] [(.int (100 : Int32)), (.int (90 : Int32))])) _
    refine XS.icmpYes X0.here hx rfl (pc0 := 35) (pc' := 52) rfl (hb hby d9_35) rfl (flt (by decide : ¬ ((100 : Int32) < (90 : Int32)))).2.2.2 (by decide) (by decide) ?_
    show Steps p.tables e below (s₁.setTop (mkF m 52 #[.val (.ref na), .val (.int (1 : Int32)), .val (.int (90 : Int32)), .unset, .unset, .unset] [])) _
    refine XS.aloadN X0.here hx rfl (hb hby d9_52) rfl rfl ?_
    show Steps p.tables e below (s₁.setTop (mkF m 53 #[.val (.ref na), .val (.int (1 : Int32)), .val (.int (90 : Int32)), .unset, .unset, .unset] [(.ref na)])) _
    refine XS.iloadN X0.here hx rfl (hb hby d9_53) rfl ?_
    show Steps p.tables e below (s₁.setTop (mkF m 54 #[.val (.ref na), .val (.int (1 : Int32)), .val (.int (90 : Int32)), .unset, .unset, .unset] [(.int (1 : Int32)), (.ref na)])) _
    refine st2 _ ?_
    show Steps p.tables e below (T2.setTop (mkF m 57 #[.val (.ref na), .val (.int (1 : Int32)), .val (.int (90 : Int32)), .unset, .unset, .unset] [(.ref nb_2)])) _
    refine XS.astoreN X2.here hx rfl (hb hby d9_57) rfl rfl (l' := #[.val (.ref na), .val (.int (1 : Int32)), .val (.int (90 : Int32)), .val (.ref nb_2), .unset, .unset]) rfl ?_
    show Steps p.tables e below (T2.setTop (mkF m 58 #[.val (.ref na), .val (.int (1 : Int32)), .val (.int (90 : Int32)), .val (.ref nb_2), .unset, .unset] [])) _
    refine XS.aloadN X2.here hx rfl (hb hby d9_58) rfl rfl ?_
    show Steps p.tables e below (T2.setTop (mkF m 59 #[.val (.ref na), .val (.int (1 : Int32)), .val (.int (90 : Int32)), .val (.ref nb_2), .unset, .unset] [(.ref nb_2)])) _
    refine st3 _ ?_
    show Steps p.tables e below (T3.setTop (mkF m 62 #[.val (.ref na), .val (.int (1 : Int32)), .val (.int (90 : Int32)), .val (.ref nb_2), .unset, .unset] [])) _
    refine XS.iloadN X3.here hx rfl (hb hby d9_62) rfl ?_
    show Steps p.tables e below (T3.setTop (mkF m 63 #[.val (.ref na), .val (.int (1 : Int32)), .val (.int (90 : Int32)), .val (.ref nb_2), .unset, .unset] [(.int (90 : Int32))])) _
    refine XS.i2l X3.here hx rfl (hb hby d9_63) rfl ?_
    show Steps p.tables e below (T3.setTop (mkF m 64 #[.val (.ref na), .val (.int (1 : Int32)), .val (.int (90 : Int32)), .val (.ref nb_2), .unset, .unset] [(.long ((90 : Int32).toInt64))])) _
    rw [show ((90 : Int32).toInt64) = (90 : Int64) from by decide]
    show Steps p.tables e below (T3.setTop (mkF m 64 #[.val (.ref na), .val (.int (1 : Int32)), .val (.int (90 : Int32)), .val (.ref nb_2), .unset, .unset] [(.long (90 : Int64))])) _
    refine XS.iloadN X3.here hx rfl (hb hby d9_64) rfl ?_
    show Steps p.tables e below (T3.setTop (mkF m 65 #[.val (.ref na), .val (.int (1 : Int32)), .val (.int (90 : Int32)), .val (.ref nb_2), .unset, .unset] [(.int (1 : Int32)), (.long (90 : Int64))])) _
    refine XS.i2l X3.here hx rfl (hb hby d9_65) rfl ?_
    show Steps p.tables e below (T3.setTop (mkF m 66 #[.val (.ref na), .val (.int (1 : Int32)), .val (.int (90 : Int32)), .val (.ref nb_2), .unset, .unset] [(.long ((1 : Int32).toInt64)), (.long (90 : Int64))])) _
    rw [show ((1 : Int32).toInt64) = (1 : Int64) from by decide]
    show Steps p.tables e below (T3.setTop (mkF m 66 #[.val (.ref na), .val (.int (1 : Int32)), .val (.int (90 : Int32)), .val (.ref nb_2), .unset, .unset] [(.long (1 : Int64)), (.long (90 : Int64))])) _
    refine XS.lmul X3.here hx rfl (hb hby d9_66) rfl ?_
    show Steps p.tables e below (T3.setTop (mkF m 67 #[.val (.ref na), .val (.int (1 : Int32)), .val (.int (90 : Int32)), .val (.ref nb_2), .unset, .unset] [(.long ((90 : Int64) * (1 : Int64)))])) _
    rw [show ((90 : Int64) * (1 : Int64)) = (90 : Int64) from by decide]
    show Steps p.tables e below (T3.setTop (mkF m 67 #[.val (.ref na), .val (.int (1 : Int32)), .val (.int (90 : Int32)), .val (.ref nb_2), .unset, .unset] [(.long (90 : Int64))])) _
    refine X3.ldc2Long hx hown (mvT hZ (hw _ (List.mem_of_getElem? (i := 57) rfl))) (g := (mkF m 67 #[.val (.ref na), .val (.int (1 : Int32)), .val (.int (90 : Int32)), .val (.ref nb_2), .unset, .unset] [(.long (90 : Int64))])) rfl (hb hby d9_67) _ ?_
    show Steps p.tables e below (T3.setTop (mkF m 70 #[.val (.ref na), .val (.int (1 : Int32)), .val (.int (90 : Int32)), .val (.ref nb_2), .unset, .unset] [(.long (99 : Int64)), (.long (90 : Int64))])) _
    refine XS.ladd X3.here hx rfl (hb hby d9_70) rfl ?_
    show Steps p.tables e below (T3.setTop (mkF m 71 #[.val (.ref na), .val (.int (1 : Int32)), .val (.int (90 : Int32)), .val (.ref nb_2), .unset, .unset] [(.long ((90 : Int64) + (99 : Int64)))])) _
    rw [show ((90 : Int64) + (99 : Int64)) = (189 : Int64) from by decide]
    show Steps p.tables e below (T3.setTop (mkF m 71 #[.val (.ref na), .val (.int (1 : Int32)), .val (.int (90 : Int32)), .val (.ref nb_2), .unset, .unset] [(.long (189 : Int64))])) _
    refine X3.ldc2Long hx hown (mvT hZ (hw _ (List.mem_of_getElem? (i := 58) rfl))) (g := (mkF m 71 #[.val (.ref na), .val (.int (1 : Int32)), .val (.int (90 : Int32)), .val (.ref nb_2), .unset, .unset] [(.long (189 : Int64))])) rfl (hb hby d9_71) _ ?_
    show Steps p.tables e below (T3.setTop (mkF m 74 #[.val (.ref na), .val (.int (1 : Int32)), .val (.int (90 : Int32)), .val (.ref nb_2), .unset, .unset] [(.long (100 : Int64)), (.long (189 : Int64))])) _
    refine XS.ldiv X3.here hx rfl (hb hby d9_74) rfl (by decide) ?_
    show Steps p.tables e below (T3.setTop (mkF m 75 #[.val (.ref na), .val (.int (1 : Int32)), .val (.int (90 : Int32)), .val (.ref nb_2), .unset, .unset] [(.long ((189 : Int64) / (100 : Int64)))])) _
    rw [show ((189 : Int64) / (100 : Int64)) = (1 : Int64) from by decide]
    show Steps p.tables e below (T3.setTop (mkF m 75 #[.val (.ref na), .val (.int (1 : Int32)), .val (.int (90 : Int32)), .val (.ref nb_2), .unset, .unset] [(.long (1 : Int64))])) _
    refine XS.lstore X3.here hx rfl (hb hby d9_75) rfl (l' := #[.val (.ref na), .val (.int (1 : Int32)), .val (.int (90 : Int32)), .val (.ref nb_2), .val (.long (1 : Int64)), .second]) rfl ?_
    show Steps p.tables e below (T3.setTop (mkF m 77 #[.val (.ref na), .val (.int (1 : Int32)), .val (.int (90 : Int32)), .val (.ref nb_2), .val (.long (1 : Int64)), .second] [])) _
    refine XS.aloadN X3.here hx rfl (hb hby d9_77) rfl rfl ?_
    show Steps p.tables e below (T3.setTop (mkF m 78 #[.val (.ref na), .val (.int (1 : Int32)), .val (.int (90 : Int32)), .val (.ref nb_2), .val (.long (1 : Int64)), .second] [(.ref nb_2)])) _
    refine XS.lload X3.here hx rfl (hb hby d9_78) rfl ?_
    show Steps p.tables e below (T3.setTop (mkF m 80 #[.val (.ref na), .val (.int (1 : Int32)), .val (.int (90 : Int32)), .val (.ref nb_2), .val (.long (1 : Int64)), .second] [(.long (1 : Int64)), (.ref nb_2)])) _
    refine XS.l2i X3.here hx rfl (hb hby d9_80) rfl ?_
    show Steps p.tables e below (T3.setTop (mkF m 81 #[.val (.ref na), .val (.int (1 : Int32)), .val (.int (90 : Int32)), .val (.ref nb_2), .val (.long (1 : Int64)), .second] [(.int ((1 : Int64).toInt32)), (.ref nb_2)])) _
    rw [show ((1 : Int64).toInt32) = (1 : Int32) from by decide]
    show Steps p.tables e below (T3.setTop (mkF m 81 #[.val (.ref na), .val (.int (1 : Int32)), .val (.int (90 : Int32)), .val (.ref nb_2), .val (.long (1 : Int64)), .second] [(.int (1 : Int32)), (.ref nb_2)])) _
    refine XS.iconst X3.here hx rfl (hb hby d9_81) ?_
    show Steps p.tables e below (T3.setTop (mkF m 82 #[.val (.ref na), .val (.int (1 : Int32)), .val (.int (90 : Int32)), .val (.ref nb_2), .val (.long (1 : Int64)), .second] [(.int (1 : Int32)), (.int (1 : Int32)), (.ref nb_2)])) _
    refine XS.isub X3.here hx rfl (hb hby d9_82) rfl ?_
    show Steps p.tables e below (T3.setTop (mkF m 83 #[.val (.ref na), .val (.int (1 : Int32)), .val (.int (90 : Int32)), .val (.ref nb_2), .val (.long (1 : Int64)), .second] [(.int ((1 : Int32) - (1 : Int32))), (.ref nb_2)])) _
    rw [show ((1 : Int32) - (1 : Int32)) = (0 : Int32) from by decide]
    show Steps p.tables e below (T3.setTop (mkF m 83 #[.val (.ref na), .val (.int (1 : Int32)), .val (.int (90 : Int32)), .val (.ref nb_2), .val (.long (1 : Int64)), .second] [(.int (0 : Int32)), (.ref nb_2)])) _
    refine X3.laload hx (j := (0 : Int32)) (v := (.long x0)) Ar4.1 (State.isArrayOf_alike hZ.alike Ar4.2.1) Ar4.2.2 hin4 hat4 (g := (mkF m 83 #[.val (.ref na), .val (.int (1 : Int32)), .val (.int (90 : Int32)), .val (.ref nb_2), .val (.long (1 : Int64)), .second] [(.int (0 : Int32)), (.ref nb_2)])) rfl rfl (hb hby d9_83) _ ?_
    show Steps p.tables e below (T3.setTop (mkF m 84 #[.val (.ref na), .val (.int (1 : Int32)), .val (.int (90 : Int32)), .val (.ref nb_2), .val (.long (1 : Int64)), .second] [(.long x0)])) _
    exact retOut X3 hx Bd.returns rfl (Or.inr (Or.inl ⟨rfl, rfl, _, rfl⟩)) (hb hby d9_84) hr
  · show Q_rmN1 Z na ka x0 x1 x2 x3 h0 n0 _ T3.heap _
    exact ⟨rfl, N3, (((Keep.refl h0 []).trans Kp2 all0).trans Kp3 (allS (Or.inr (Nat.le_trans (Nat.le_refl h0.size) gb2_0)) all0)), f5⟩
def Q_rmN2 (Z : State) (na : Addr) (ka : ClassId) (x0 : Int64) (x1 : Int64) (x2 : Int64) (x3 : Int64) (h0 : Heap) (n0 : Nat) (v : Option Value) (h : Heap) (L : List Loc) : Prop := v = some (.long (own_mx x0 x1)) ∧ Fr n0 L ∧ Keep h0 h [] ∧ Arv Z h na ka .long (100 : Int32) [(.long x0), (.long x1), (.long x2), (.long x3)] (.long (0 : Int64))
theorem ef_rmN2 (m : MethodId) (na : Addr) : entryFrame m #[(.ref na), (.int (2 : Int32)), (.int (90 : Int32))] 6 = mkF m 0 #[.val (.ref na), .val (.int (2 : Int32)), .val (.int (90 : Int32)), .unset, .unset, .unset] [] := by first | (simp [entryFrame, mkF, argsToLocals, Value.category]; done) | rfl
set_option maxRecDepth 65536 in
set_option maxHeartbeats 40000000 in
theorem rmN2 (l : Launch) (Z : State) (a0 : Array Value) (hw : ∀ d ∈ tables_1, d.before a0 Z = true) (ws : List Jvm.Cond) (na : Addr) (ka : ClassId) (x0 : Int64) (x1 : Int64) (x2 : Int64) (x3 : Int64) (h0 : Heap) (n0 : Nat) (Z0 : n0 ≤ h0.size) (V_na : Arv Z h0 na ka .long (100 : Int32) [(.long x0), (.long x1), (.long x2), (.long x3)] (.long (0 : Int64))) :
    MetFree l (⟨"com/example/tolc/tolc/Percentiles", "nearestRank", "([JII)J"⟩ : MethodName) (head1 (Jvm.Cond.code (⟨"com/example/tolc/tolc/Percentiles", "nearestRank", "([JII)J"⟩ : MethodName) prog_14_method_2_code 6 (some .long) :: ws) ({ frames := 4, cells := 1, slots := 2, locals := 84 } : Room)) (fun a U => a = #[(.ref na), (.int (2 : Int32)), (.int (90 : Int32))] ∧ Z.Warmed39 U.vm ∧ U.heap = h0) (fun _ _ _ _ _ => True) (fun _ U o U' => ∃ v L, o = .returned v ∧ Q_rmN2 Z na ka x0 x1 x2 x3 h0 n0 v U'.heap L ∧ FrameEnd U o U' L ({ frames := 4, cells := 1, slots := 2, locals := 84 } : Room).cells ({ frames := 4, cells := 1, slots := 2, locals := 84 } : Room).slots) := by
  refine MetFree.of_bodySF (plainFor_of_name pn_3) hisR ?_
  intro p e s m args below meth c s₁ Bd hml0 hP hK
  obtain ⟨rfl, hZ, hh⟩ := hP
  have hx := Bd.exec
  have hby := Bd.bytes
  have hml : c.maxLocals = 6 := hml0
  have hown : s.vm.findClass "com/example/tolc/tolc/Percentiles" = some m.cls := findClass_of_methodNamed Bd.named
  have hnm := (name_of_methodNamed Bd.named Bd.method).1
  have X0 : Stand p l e ({ frames := 4, cells := 1, slots := 2, locals := 84 } : Room) s m #[(.ref na), (.int (2 : Int32)), (.int (90 : Int32))] below meth c s₁ [] 0 0 := Stand.of_body Bd
  have e0 : s₁.heap = h0 := by rw [← hh, Bd.state]; rfl
  have N0 := Fr.nil n0
  have pre0 : ∀ t, Steps p.tables e below (s₁.setTop (mkF m 0 #[.val (.ref na), .val (.int (2 : Int32)), .val (.int (90 : Int32)), .unset, .unset, .unset] [])) t → Steps p.tables e below (s₁.setTop (entryFrame m #[(.ref na), (.int (2 : Int32)), (.int (90 : Int32))] 6)) t := fun t k => castTop (ef_rmN2 m na) k
  have Vc1 := V_na
  obtain ⟨cl1, Ar1, -, S1, M1, -, -⟩ := Vc1
  obtain ⟨_, _, ⟨T2, L2, k2, n2⟩, -, X2, ⟨Lc2, hQ2, l2, y2, z2⟩, st2⟩ := Jvm.LawKit.callS X0 hx (y := (⟨"java/util/Arrays", "copyOf", "([JI)[J"⟩ : MethodName)) hown (mvT hZ (hw _ (List.mem_of_getElem? (i := 35) rfl))) (mvT hZ (hw _ (List.mem_of_getElem? (i := 36) rfl))) (mvT hZ (hw _ (List.mem_of_getElem? (i := 37) rfl))) (mvT hZ (hw _ (List.mem_of_getElem? (i := 38) rfl))) (by decide) (backOf (W := 0) (rmC2 l Z a0 hw [] na ka x0 x1 x2 x3 h0 n0 Z0 V_na) hZ (hw _ (List.mem_of_getElem? (i := 38) rfl)) (hw _ (List.mem_of_getElem? (i := 37) rfl)) (by decide) (by decide)) (g := (mkF m 54 #[.val (.ref na), .val (.int (2 : Int32)), .val (.int (90 : Int32)), .unset, .unset, .unset] [(.int (2 : Int32)), (.ref na)])) rfl (by rw [hml]; rfl) (argsL := [(.ref na), (.int (2 : Int32))]) (rest := []) (lenOf pd_4 rfl) rfl (by show 2 * 0 + _ ≤ _; exact Nat.le_of_eq rfl) (hb hby d9_54) (fun _ _ => ⟨rfl, e0, (by decide : 0 + 1 ≤ _), (by decide : 0 + 2 ≤ _)⟩)
  dsimp only [Pt.U, Pt.locs, Pt.cells, Pt.slots] at X2 l2 y2 z2 st2 hQ2
  subst l2 y2 z2
  obtain ⟨nb_2, kb_2, rfl, Nq2, gb2_0, Kp2, Fq2_0⟩ := hQ2
  have N2 := Fr.app N0 Nq2
  obtain ⟨_, _, ⟨T3, L3, k3, n3⟩, -, X3, ⟨Lc3, hQ3, l3, y3, z3⟩, st3⟩ := Jvm.LawKit.callS X2 hx (y := (⟨"java/util/Arrays", "sort", "([J)V"⟩ : MethodName)) hown (mvT hZ (hw _ (List.mem_of_getElem? (i := 44) rfl))) (mvT hZ (hw _ (List.mem_of_getElem? (i := 45) rfl))) (mvT hZ (hw _ (List.mem_of_getElem? (i := 37) rfl))) (mvT hZ (hw _ (List.mem_of_getElem? (i := 46) rfl))) (by decide) (backOf (W := 0) (rmS1_2 l Z a0 hw [] nb_2 kb_2 x0 x1 T2.heap n0 (Nat.le_trans Z0 Kp2.1) Fq2_0 (Nat.le_trans Z0 gb2_0)) hZ (hw _ (List.mem_of_getElem? (i := 46) rfl)) (hw _ (List.mem_of_getElem? (i := 37) rfl)) (by decide) (by decide)) (g := (mkF m 59 #[.val (.ref na), .val (.int (2 : Int32)), .val (.int (90 : Int32)), .val (.ref nb_2), .unset, .unset] [(.ref nb_2)])) rfl (by rw [hml]; rfl) (argsL := [(.ref nb_2)]) (rest := []) (lenOf pd_5 rfl) rfl (by show 2 * 0 + _ ≤ _; exact Nat.le_of_eq rfl) (hb hby d9_59) (fun _ _ => ⟨rfl, rfl, (by decide : 1 + 0 ≤ _), (by decide : 2 + 0 ≤ _)⟩)
  dsimp only [Pt.U, Pt.locs, Pt.cells, Pt.slots] at X3 l3 y3 z3 st3 hQ3
  subst l3 y3 z3
  obtain ⟨y0_3, rfl, Nq3, Kp3, Fq3_0⟩ := hQ3
  have N3 := Fr.app N2 Nq3
  have Vc4 := Fq3_0
  obtain ⟨cl4, Ar4, q4, S4, M4, H4, G4⟩ := Vc4
  have hin4 : ¬ ((1 : Int32) < 0 ∨ cl4.slots.size ≤ ((1 : Int32)).toNatClampNeg) := inb_of S4 ⟨by decide, by decide⟩
  have hat4 : cl4.slots[((1 : Int32)).toNatClampNeg]? = some (.long (own_mx x0 x1)) := Has.at H4 hin4 rfl
  have f5 : Arv Z T3.heap na ka .long (100 : Int32) [(.long x0), (.long x1), (.long x2), (.long x3)] (.long (0 : Int64)) := ((V_na.keep Kp2 nin0).keep Kp3 (ninS (Nat.ne_of_lt (Nat.lt_of_lt_of_le V_na.lt gb2_0)) nin0))
  obtain ⟨fs, hr, hrun, hended, hW, hsame⟩ := X3.leave (v := some (.long (own_mx x0 x1))) (fun h => by rw [Bd.returns] at h; cases h)
  refine ⟨_, _, pre0 _ ?_, hrun, hended, _, _, rfl, ?_, ⟨_, rfl⟩, hW, hsame.mono (by decide) (by decide)⟩
  · show Steps p.tables e below (s₁.setTop (mkF m 0 #[.val (.ref na), .val (.int (2 : Int32)), .val (.int (90 : Int32)), .unset, .unset, .unset] [])) _
    refine XS.iloadN X0.here hx rfl (hb hby d9_0) rfl ?_
    show Steps p.tables e below (s₁.setTop (mkF m 1 #[.val (.ref na), .val (.int (2 : Int32)), .val (.int (90 : Int32)), .unset, .unset, .unset] [(.int (2 : Int32))])) _
    refine XS.iconst X0.here hx rfl (hb hby d9_1) ?_
    show Steps p.tables e below (s₁.setTop (mkF m 2 #[.val (.ref na), .val (.int (2 : Int32)), .val (.int (90 : Int32)), .unset, .unset, .unset] [(.int (1 : Int32)), (.int (2 : Int32))])) _
    refine XS.icmpNo X0.here hx rfl (hb hby d9_2) rfl (flt (by decide : ¬ ((2 : Int32) < (1 : Int32)))).1 ?_
    show Steps p.tables e below (s₁.setTop (mkF m 5 #[.val (.ref na), .val (.int (2 : Int32)), .val (.int (90 : Int32)), .unset, .unset, .unset] [])) _
    refine XS.iloadN X0.here hx rfl (hb hby d9_5) rfl ?_
    show Steps p.tables e below (s₁.setTop (mkF m 6 #[.val (.ref na), .val (.int (2 : Int32)), .val (.int (90 : Int32)), .unset, .unset, .unset] [(.int (2 : Int32))])) _
    refine XS.aloadN X0.here hx rfl (hb hby d9_6) rfl rfl ?_
    show Steps p.tables e below (s₁.setTop (mkF m 7 #[.val (.ref na), .val (.int (2 : Int32)), .val (.int (90 : Int32)), .unset, .unset, .unset] [(.ref na), (.int (2 : Int32))])) _
    refine X0.arraylength hx (cell := cl1) (by rw [e0]; exact Ar1.1) (State.isArrayOf_alike hZ.alike Ar1.2.1) (g := (mkF m 7 #[.val (.ref na), .val (.int (2 : Int32)), .val (.int (90 : Int32)), .unset, .unset, .unset] [(.ref na), (.int (2 : Int32))])) rfl (rest := [(.int (2 : Int32))]) rfl (hb hby d9_7) _ ?_
    rw [len_of S1 M1]
    show Steps p.tables e below (s₁.setTop (mkF m 8 #[.val (.ref na), .val (.int (2 : Int32)), .val (.int (90 : Int32)), .unset, .unset, .unset] [(.int (100 : Int32)), (.int (2 : Int32))])) _
    refine XS.icmpYes X0.here hx rfl (pc0 := 8) (pc' := 27) rfl (hb hby d9_8) rfl (flt (by decide : ¬ ((100 : Int32) < (2 : Int32)))).2.2.2 (by decide) (by decide) ?_
    show Steps p.tables e below (s₁.setTop (mkF m 27 #[.val (.ref na), .val (.int (2 : Int32)), .val (.int (90 : Int32)), .unset, .unset, .unset] [])) _
    refine XS.iloadN X0.here hx rfl (hb hby d9_27) rfl ?_
    show Steps p.tables e below (s₁.setTop (mkF m 28 #[.val (.ref na), .val (.int (2 : Int32)), .val (.int (90 : Int32)), .unset, .unset, .unset] [(.int (90 : Int32))])) _
    refine XS.iconst X0.here hx rfl (hb hby d9_28) ?_
    show Steps p.tables e below (s₁.setTop (mkF m 29 #[.val (.ref na), .val (.int (2 : Int32)), .val (.int (90 : Int32)), .unset, .unset, .unset] [(.int (1 : Int32)), (.int (90 : Int32))])) _
    refine XS.icmpNo X0.here hx rfl (hb hby d9_29) rfl (flt (by decide : ¬ ((90 : Int32) < (1 : Int32)))).1 ?_
    show Steps p.tables e below (s₁.setTop (mkF m 32 #[.val (.ref na), .val (.int (2 : Int32)), .val (.int (90 : Int32)), .unset, .unset, .unset] [])) _
    refine XS.iloadN X0.here hx rfl (hb hby d9_32) rfl ?_
    show Steps p.tables e below (s₁.setTop (mkF m 33 #[.val (.ref na), .val (.int (2 : Int32)), .val (.int (90 : Int32)), .unset, .unset, .unset] [(.int (90 : Int32))])) _
    refine XS.bipush X0.here hx rfl (hb hby d9_33) ?_
    show Steps p.tables e below (s₁.setTop (mkF m 35 #[.val (.ref na), .val (.int (2 : Int32)), .val (.int (90 : Int32)), .unset, .unset, .unset] [(.int (100 : Int32)), (.int (90 : Int32))])) _
    refine XS.icmpYes X0.here hx rfl (pc0 := 35) (pc' := 52) rfl (hb hby d9_35) rfl (flt (by decide : ¬ ((100 : Int32) < (90 : Int32)))).2.2.2 (by decide) (by decide) ?_
    show Steps p.tables e below (s₁.setTop (mkF m 52 #[.val (.ref na), .val (.int (2 : Int32)), .val (.int (90 : Int32)), .unset, .unset, .unset] [])) _
    refine XS.aloadN X0.here hx rfl (hb hby d9_52) rfl rfl ?_
    show Steps p.tables e below (s₁.setTop (mkF m 53 #[.val (.ref na), .val (.int (2 : Int32)), .val (.int (90 : Int32)), .unset, .unset, .unset] [(.ref na)])) _
    refine XS.iloadN X0.here hx rfl (hb hby d9_53) rfl ?_
    show Steps p.tables e below (s₁.setTop (mkF m 54 #[.val (.ref na), .val (.int (2 : Int32)), .val (.int (90 : Int32)), .unset, .unset, .unset] [(.int (2 : Int32)), (.ref na)])) _
    refine st2 _ ?_
    show Steps p.tables e below (T2.setTop (mkF m 57 #[.val (.ref na), .val (.int (2 : Int32)), .val (.int (90 : Int32)), .unset, .unset, .unset] [(.ref nb_2)])) _
    refine XS.astoreN X2.here hx rfl (hb hby d9_57) rfl rfl (l' := #[.val (.ref na), .val (.int (2 : Int32)), .val (.int (90 : Int32)), .val (.ref nb_2), .unset, .unset]) rfl ?_
    show Steps p.tables e below (T2.setTop (mkF m 58 #[.val (.ref na), .val (.int (2 : Int32)), .val (.int (90 : Int32)), .val (.ref nb_2), .unset, .unset] [])) _
    refine XS.aloadN X2.here hx rfl (hb hby d9_58) rfl rfl ?_
    show Steps p.tables e below (T2.setTop (mkF m 59 #[.val (.ref na), .val (.int (2 : Int32)), .val (.int (90 : Int32)), .val (.ref nb_2), .unset, .unset] [(.ref nb_2)])) _
    refine st3 _ ?_
    show Steps p.tables e below (T3.setTop (mkF m 62 #[.val (.ref na), .val (.int (2 : Int32)), .val (.int (90 : Int32)), .val (.ref nb_2), .unset, .unset] [])) _
    refine XS.iloadN X3.here hx rfl (hb hby d9_62) rfl ?_
    show Steps p.tables e below (T3.setTop (mkF m 63 #[.val (.ref na), .val (.int (2 : Int32)), .val (.int (90 : Int32)), .val (.ref nb_2), .unset, .unset] [(.int (90 : Int32))])) _
    refine XS.i2l X3.here hx rfl (hb hby d9_63) rfl ?_
    show Steps p.tables e below (T3.setTop (mkF m 64 #[.val (.ref na), .val (.int (2 : Int32)), .val (.int (90 : Int32)), .val (.ref nb_2), .unset, .unset] [(.long ((90 : Int32).toInt64))])) _
    rw [show ((90 : Int32).toInt64) = (90 : Int64) from by decide]
    show Steps p.tables e below (T3.setTop (mkF m 64 #[.val (.ref na), .val (.int (2 : Int32)), .val (.int (90 : Int32)), .val (.ref nb_2), .unset, .unset] [(.long (90 : Int64))])) _
    refine XS.iloadN X3.here hx rfl (hb hby d9_64) rfl ?_
    show Steps p.tables e below (T3.setTop (mkF m 65 #[.val (.ref na), .val (.int (2 : Int32)), .val (.int (90 : Int32)), .val (.ref nb_2), .unset, .unset] [(.int (2 : Int32)), (.long (90 : Int64))])) _
    refine XS.i2l X3.here hx rfl (hb hby d9_65) rfl ?_
    show Steps p.tables e below (T3.setTop (mkF m 66 #[.val (.ref na), .val (.int (2 : Int32)), .val (.int (90 : Int32)), .val (.ref nb_2), .unset, .unset] [(.long ((2 : Int32).toInt64)), (.long (90 : Int64))])) _
    rw [show ((2 : Int32).toInt64) = (2 : Int64) from by decide]
    show Steps p.tables e below (T3.setTop (mkF m 66 #[.val (.ref na), .val (.int (2 : Int32)), .val (.int (90 : Int32)), .val (.ref nb_2), .unset, .unset] [(.long (2 : Int64)), (.long (90 : Int64))])) _
    refine XS.lmul X3.here hx rfl (hb hby d9_66) rfl ?_
    show Steps p.tables e below (T3.setTop (mkF m 67 #[.val (.ref na), .val (.int (2 : Int32)), .val (.int (90 : Int32)), .val (.ref nb_2), .unset, .unset] [(.long ((90 : Int64) * (2 : Int64)))])) _
    rw [show ((90 : Int64) * (2 : Int64)) = (180 : Int64) from by decide]
    show Steps p.tables e below (T3.setTop (mkF m 67 #[.val (.ref na), .val (.int (2 : Int32)), .val (.int (90 : Int32)), .val (.ref nb_2), .unset, .unset] [(.long (180 : Int64))])) _
    refine X3.ldc2Long hx hown (mvT hZ (hw _ (List.mem_of_getElem? (i := 57) rfl))) (g := (mkF m 67 #[.val (.ref na), .val (.int (2 : Int32)), .val (.int (90 : Int32)), .val (.ref nb_2), .unset, .unset] [(.long (180 : Int64))])) rfl (hb hby d9_67) _ ?_
    show Steps p.tables e below (T3.setTop (mkF m 70 #[.val (.ref na), .val (.int (2 : Int32)), .val (.int (90 : Int32)), .val (.ref nb_2), .unset, .unset] [(.long (99 : Int64)), (.long (180 : Int64))])) _
    refine XS.ladd X3.here hx rfl (hb hby d9_70) rfl ?_
    show Steps p.tables e below (T3.setTop (mkF m 71 #[.val (.ref na), .val (.int (2 : Int32)), .val (.int (90 : Int32)), .val (.ref nb_2), .unset, .unset] [(.long ((180 : Int64) + (99 : Int64)))])) _
    rw [show ((180 : Int64) + (99 : Int64)) = (279 : Int64) from by decide]
    show Steps p.tables e below (T3.setTop (mkF m 71 #[.val (.ref na), .val (.int (2 : Int32)), .val (.int (90 : Int32)), .val (.ref nb_2), .unset, .unset] [(.long (279 : Int64))])) _
    refine X3.ldc2Long hx hown (mvT hZ (hw _ (List.mem_of_getElem? (i := 58) rfl))) (g := (mkF m 71 #[.val (.ref na), .val (.int (2 : Int32)), .val (.int (90 : Int32)), .val (.ref nb_2), .unset, .unset] [(.long (279 : Int64))])) rfl (hb hby d9_71) _ ?_
    show Steps p.tables e below (T3.setTop (mkF m 74 #[.val (.ref na), .val (.int (2 : Int32)), .val (.int (90 : Int32)), .val (.ref nb_2), .unset, .unset] [(.long (100 : Int64)), (.long (279 : Int64))])) _
    refine XS.ldiv X3.here hx rfl (hb hby d9_74) rfl (by decide) ?_
    show Steps p.tables e below (T3.setTop (mkF m 75 #[.val (.ref na), .val (.int (2 : Int32)), .val (.int (90 : Int32)), .val (.ref nb_2), .unset, .unset] [(.long ((279 : Int64) / (100 : Int64)))])) _
    rw [show ((279 : Int64) / (100 : Int64)) = (2 : Int64) from by decide]
    show Steps p.tables e below (T3.setTop (mkF m 75 #[.val (.ref na), .val (.int (2 : Int32)), .val (.int (90 : Int32)), .val (.ref nb_2), .unset, .unset] [(.long (2 : Int64))])) _
    refine XS.lstore X3.here hx rfl (hb hby d9_75) rfl (l' := #[.val (.ref na), .val (.int (2 : Int32)), .val (.int (90 : Int32)), .val (.ref nb_2), .val (.long (2 : Int64)), .second]) rfl ?_
    show Steps p.tables e below (T3.setTop (mkF m 77 #[.val (.ref na), .val (.int (2 : Int32)), .val (.int (90 : Int32)), .val (.ref nb_2), .val (.long (2 : Int64)), .second] [])) _
    refine XS.aloadN X3.here hx rfl (hb hby d9_77) rfl rfl ?_
    show Steps p.tables e below (T3.setTop (mkF m 78 #[.val (.ref na), .val (.int (2 : Int32)), .val (.int (90 : Int32)), .val (.ref nb_2), .val (.long (2 : Int64)), .second] [(.ref nb_2)])) _
    refine XS.lload X3.here hx rfl (hb hby d9_78) rfl ?_
    show Steps p.tables e below (T3.setTop (mkF m 80 #[.val (.ref na), .val (.int (2 : Int32)), .val (.int (90 : Int32)), .val (.ref nb_2), .val (.long (2 : Int64)), .second] [(.long (2 : Int64)), (.ref nb_2)])) _
    refine XS.l2i X3.here hx rfl (hb hby d9_80) rfl ?_
    show Steps p.tables e below (T3.setTop (mkF m 81 #[.val (.ref na), .val (.int (2 : Int32)), .val (.int (90 : Int32)), .val (.ref nb_2), .val (.long (2 : Int64)), .second] [(.int ((2 : Int64).toInt32)), (.ref nb_2)])) _
    rw [show ((2 : Int64).toInt32) = (2 : Int32) from by decide]
    show Steps p.tables e below (T3.setTop (mkF m 81 #[.val (.ref na), .val (.int (2 : Int32)), .val (.int (90 : Int32)), .val (.ref nb_2), .val (.long (2 : Int64)), .second] [(.int (2 : Int32)), (.ref nb_2)])) _
    refine XS.iconst X3.here hx rfl (hb hby d9_81) ?_
    show Steps p.tables e below (T3.setTop (mkF m 82 #[.val (.ref na), .val (.int (2 : Int32)), .val (.int (90 : Int32)), .val (.ref nb_2), .val (.long (2 : Int64)), .second] [(.int (1 : Int32)), (.int (2 : Int32)), (.ref nb_2)])) _
    refine XS.isub X3.here hx rfl (hb hby d9_82) rfl ?_
    show Steps p.tables e below (T3.setTop (mkF m 83 #[.val (.ref na), .val (.int (2 : Int32)), .val (.int (90 : Int32)), .val (.ref nb_2), .val (.long (2 : Int64)), .second] [(.int ((2 : Int32) - (1 : Int32))), (.ref nb_2)])) _
    rw [show ((2 : Int32) - (1 : Int32)) = (1 : Int32) from by decide]
    show Steps p.tables e below (T3.setTop (mkF m 83 #[.val (.ref na), .val (.int (2 : Int32)), .val (.int (90 : Int32)), .val (.ref nb_2), .val (.long (2 : Int64)), .second] [(.int (1 : Int32)), (.ref nb_2)])) _
    refine X3.laload hx (j := (1 : Int32)) (v := (.long (own_mx x0 x1))) Ar4.1 (State.isArrayOf_alike hZ.alike Ar4.2.1) Ar4.2.2 hin4 hat4 (g := (mkF m 83 #[.val (.ref na), .val (.int (2 : Int32)), .val (.int (90 : Int32)), .val (.ref nb_2), .val (.long (2 : Int64)), .second] [(.int (1 : Int32)), (.ref nb_2)])) rfl rfl (hb hby d9_83) _ ?_
    show Steps p.tables e below (T3.setTop (mkF m 84 #[.val (.ref na), .val (.int (2 : Int32)), .val (.int (90 : Int32)), .val (.ref nb_2), .val (.long (2 : Int64)), .second] [(.long (own_mx x0 x1))])) _
    exact retOut X3 hx Bd.returns rfl (Or.inr (Or.inl ⟨rfl, rfl, _, rfl⟩)) (hb hby d9_84) hr
  · show Q_rmN2 Z na ka x0 x1 x2 x3 h0 n0 _ T3.heap _
    exact ⟨rfl, N3, (((Keep.refl h0 []).trans Kp2 all0).trans Kp3 (allS (Or.inr (Nat.le_trans (Nat.le_refl h0.size) gb2_0)) all0)), f5⟩
def Q_rmN3 (Z : State) (na : Addr) (ka : ClassId) (x0 : Int64) (x1 : Int64) (x2 : Int64) (x3 : Int64) (h0 : Heap) (n0 : Nat) (v : Option Value) (h : Heap) (L : List Loc) : Prop := v = some (.long (own_mx (own_mx x0 x1) x2)) ∧ Fr n0 L ∧ Keep h0 h [] ∧ Arv Z h na ka .long (100 : Int32) [(.long x0), (.long x1), (.long x2), (.long x3)] (.long (0 : Int64))
theorem ef_rmN3 (m : MethodId) (na : Addr) : entryFrame m #[(.ref na), (.int (3 : Int32)), (.int (90 : Int32))] 6 = mkF m 0 #[.val (.ref na), .val (.int (3 : Int32)), .val (.int (90 : Int32)), .unset, .unset, .unset] [] := by first | (simp [entryFrame, mkF, argsToLocals, Value.category]; done) | rfl
set_option maxRecDepth 65536 in
set_option maxHeartbeats 40000000 in
theorem rmN3 (l : Launch) (Z : State) (a0 : Array Value) (hw : ∀ d ∈ tables_1, d.before a0 Z = true) (ws : List Jvm.Cond) (na : Addr) (ka : ClassId) (x0 : Int64) (x1 : Int64) (x2 : Int64) (x3 : Int64) (h0 : Heap) (n0 : Nat) (Z0 : n0 ≤ h0.size) (V_na : Arv Z h0 na ka .long (100 : Int32) [(.long x0), (.long x1), (.long x2), (.long x3)] (.long (0 : Int64))) :
    MetFree l (⟨"com/example/tolc/tolc/Percentiles", "nearestRank", "([JII)J"⟩ : MethodName) (head1 (Jvm.Cond.code (⟨"com/example/tolc/tolc/Percentiles", "nearestRank", "([JII)J"⟩ : MethodName) prog_14_method_2_code 6 (some .long) :: ws) ({ frames := 4, cells := 1, slots := 3, locals := 84 } : Room)) (fun a U => a = #[(.ref na), (.int (3 : Int32)), (.int (90 : Int32))] ∧ Z.Warmed39 U.vm ∧ U.heap = h0) (fun _ _ _ _ _ => True) (fun _ U o U' => ∃ v L, o = .returned v ∧ Q_rmN3 Z na ka x0 x1 x2 x3 h0 n0 v U'.heap L ∧ FrameEnd U o U' L ({ frames := 4, cells := 1, slots := 3, locals := 84 } : Room).cells ({ frames := 4, cells := 1, slots := 3, locals := 84 } : Room).slots) := by
  refine MetFree.of_bodySF (plainFor_of_name pn_3) hisR ?_
  intro p e s m args below meth c s₁ Bd hml0 hP hK
  obtain ⟨rfl, hZ, hh⟩ := hP
  have hx := Bd.exec
  have hby := Bd.bytes
  have hml : c.maxLocals = 6 := hml0
  have hown : s.vm.findClass "com/example/tolc/tolc/Percentiles" = some m.cls := findClass_of_methodNamed Bd.named
  have hnm := (name_of_methodNamed Bd.named Bd.method).1
  have X0 : Stand p l e ({ frames := 4, cells := 1, slots := 3, locals := 84 } : Room) s m #[(.ref na), (.int (3 : Int32)), (.int (90 : Int32))] below meth c s₁ [] 0 0 := Stand.of_body Bd
  have e0 : s₁.heap = h0 := by rw [← hh, Bd.state]; rfl
  have N0 := Fr.nil n0
  have pre0 : ∀ t, Steps p.tables e below (s₁.setTop (mkF m 0 #[.val (.ref na), .val (.int (3 : Int32)), .val (.int (90 : Int32)), .unset, .unset, .unset] [])) t → Steps p.tables e below (s₁.setTop (entryFrame m #[(.ref na), (.int (3 : Int32)), (.int (90 : Int32))] 6)) t := fun t k => castTop (ef_rmN3 m na) k
  have Vc1 := V_na
  obtain ⟨cl1, Ar1, -, S1, M1, -, -⟩ := Vc1
  obtain ⟨_, _, ⟨T2, L2, k2, n2⟩, -, X2, ⟨Lc2, hQ2, l2, y2, z2⟩, st2⟩ := Jvm.LawKit.callS X0 hx (y := (⟨"java/util/Arrays", "copyOf", "([JI)[J"⟩ : MethodName)) hown (mvT hZ (hw _ (List.mem_of_getElem? (i := 35) rfl))) (mvT hZ (hw _ (List.mem_of_getElem? (i := 36) rfl))) (mvT hZ (hw _ (List.mem_of_getElem? (i := 37) rfl))) (mvT hZ (hw _ (List.mem_of_getElem? (i := 38) rfl))) (by decide) (backOf (W := 0) (rmC3 l Z a0 hw [] na ka x0 x1 x2 x3 h0 n0 Z0 V_na) hZ (hw _ (List.mem_of_getElem? (i := 38) rfl)) (hw _ (List.mem_of_getElem? (i := 37) rfl)) (by decide) (by decide)) (g := (mkF m 54 #[.val (.ref na), .val (.int (3 : Int32)), .val (.int (90 : Int32)), .unset, .unset, .unset] [(.int (3 : Int32)), (.ref na)])) rfl (by rw [hml]; rfl) (argsL := [(.ref na), (.int (3 : Int32))]) (rest := []) (lenOf pd_4 rfl) rfl (by show 2 * 0 + _ ≤ _; exact Nat.le_of_eq rfl) (hb hby d9_54) (fun _ _ => ⟨rfl, e0, (by decide : 0 + 1 ≤ _), (by decide : 0 + 3 ≤ _)⟩)
  dsimp only [Pt.U, Pt.locs, Pt.cells, Pt.slots] at X2 l2 y2 z2 st2 hQ2
  subst l2 y2 z2
  obtain ⟨nb_2, kb_2, rfl, Nq2, gb2_0, Kp2, Fq2_0⟩ := hQ2
  have N2 := Fr.app N0 Nq2
  obtain ⟨_, _, ⟨T3, L3, k3, n3⟩, -, X3, ⟨Lc3, hQ3, l3, y3, z3⟩, st3⟩ := Jvm.LawKit.callS X2 hx (y := (⟨"java/util/Arrays", "sort", "([J)V"⟩ : MethodName)) hown (mvT hZ (hw _ (List.mem_of_getElem? (i := 44) rfl))) (mvT hZ (hw _ (List.mem_of_getElem? (i := 45) rfl))) (mvT hZ (hw _ (List.mem_of_getElem? (i := 37) rfl))) (mvT hZ (hw _ (List.mem_of_getElem? (i := 46) rfl))) (by decide) (backOf (W := 0) (rmS1_3 l Z a0 hw [] nb_2 kb_2 x0 x1 x2 T2.heap n0 (Nat.le_trans Z0 Kp2.1) Fq2_0 (Nat.le_trans Z0 gb2_0)) hZ (hw _ (List.mem_of_getElem? (i := 46) rfl)) (hw _ (List.mem_of_getElem? (i := 37) rfl)) (by decide) (by decide)) (g := (mkF m 59 #[.val (.ref na), .val (.int (3 : Int32)), .val (.int (90 : Int32)), .val (.ref nb_2), .unset, .unset] [(.ref nb_2)])) rfl (by rw [hml]; rfl) (argsL := [(.ref nb_2)]) (rest := []) (lenOf pd_5 rfl) rfl (by show 2 * 0 + _ ≤ _; exact Nat.le_of_eq rfl) (hb hby d9_59) (fun _ _ => ⟨rfl, rfl, (by decide : 1 + 0 ≤ _), (by decide : 3 + 0 ≤ _)⟩)
  dsimp only [Pt.U, Pt.locs, Pt.cells, Pt.slots] at X3 l3 y3 z3 st3 hQ3
  subst l3 y3 z3
  obtain ⟨y0_3, y1_3, rfl, Nq3, Kp3, Fq3_0⟩ := hQ3
  have N3 := Fr.app N2 Nq3
  have Vc4 := Fq3_0
  obtain ⟨cl4, Ar4, q4, S4, M4, H4, G4⟩ := Vc4
  have hin4 : ¬ ((2 : Int32) < 0 ∨ cl4.slots.size ≤ ((2 : Int32)).toNatClampNeg) := inb_of S4 ⟨by decide, by decide⟩
  have hat4 : cl4.slots[((2 : Int32)).toNatClampNeg]? = some (.long (own_mx (own_mx x0 x1) x2)) := Has.at H4 hin4 rfl
  have f5 : Arv Z T3.heap na ka .long (100 : Int32) [(.long x0), (.long x1), (.long x2), (.long x3)] (.long (0 : Int64)) := ((V_na.keep Kp2 nin0).keep Kp3 (ninS (Nat.ne_of_lt (Nat.lt_of_lt_of_le V_na.lt gb2_0)) nin0))
  obtain ⟨fs, hr, hrun, hended, hW, hsame⟩ := X3.leave (v := some (.long (own_mx (own_mx x0 x1) x2))) (fun h => by rw [Bd.returns] at h; cases h)
  refine ⟨_, _, pre0 _ ?_, hrun, hended, _, _, rfl, ?_, ⟨_, rfl⟩, hW, hsame.mono (by decide) (by decide)⟩
  · show Steps p.tables e below (s₁.setTop (mkF m 0 #[.val (.ref na), .val (.int (3 : Int32)), .val (.int (90 : Int32)), .unset, .unset, .unset] [])) _
    refine XS.iloadN X0.here hx rfl (hb hby d9_0) rfl ?_
    show Steps p.tables e below (s₁.setTop (mkF m 1 #[.val (.ref na), .val (.int (3 : Int32)), .val (.int (90 : Int32)), .unset, .unset, .unset] [(.int (3 : Int32))])) _
    refine XS.iconst X0.here hx rfl (hb hby d9_1) ?_
    show Steps p.tables e below (s₁.setTop (mkF m 2 #[.val (.ref na), .val (.int (3 : Int32)), .val (.int (90 : Int32)), .unset, .unset, .unset] [(.int (1 : Int32)), (.int (3 : Int32))])) _
    refine XS.icmpNo X0.here hx rfl (hb hby d9_2) rfl (flt (by decide : ¬ ((3 : Int32) < (1 : Int32)))).1 ?_
    show Steps p.tables e below (s₁.setTop (mkF m 5 #[.val (.ref na), .val (.int (3 : Int32)), .val (.int (90 : Int32)), .unset, .unset, .unset] [])) _
    refine XS.iloadN X0.here hx rfl (hb hby d9_5) rfl ?_
    show Steps p.tables e below (s₁.setTop (mkF m 6 #[.val (.ref na), .val (.int (3 : Int32)), .val (.int (90 : Int32)), .unset, .unset, .unset] [(.int (3 : Int32))])) _
    refine XS.aloadN X0.here hx rfl (hb hby d9_6) rfl rfl ?_
    show Steps p.tables e below (s₁.setTop (mkF m 7 #[.val (.ref na), .val (.int (3 : Int32)), .val (.int (90 : Int32)), .unset, .unset, .unset] [(.ref na), (.int (3 : Int32))])) _
    refine X0.arraylength hx (cell := cl1) (by rw [e0]; exact Ar1.1) (State.isArrayOf_alike hZ.alike Ar1.2.1) (g := (mkF m 7 #[.val (.ref na), .val (.int (3 : Int32)), .val (.int (90 : Int32)), .unset, .unset, .unset] [(.ref na), (.int (3 : Int32))])) rfl (rest := [(.int (3 : Int32))]) rfl (hb hby d9_7) _ ?_
    rw [len_of S1 M1]
    show Steps p.tables e below (s₁.setTop (mkF m 8 #[.val (.ref na), .val (.int (3 : Int32)), .val (.int (90 : Int32)), .unset, .unset, .unset] [(.int (100 : Int32)), (.int (3 : Int32))])) _
    refine XS.icmpYes X0.here hx rfl (pc0 := 8) (pc' := 27) rfl (hb hby d9_8) rfl (flt (by decide : ¬ ((100 : Int32) < (3 : Int32)))).2.2.2 (by decide) (by decide) ?_
    show Steps p.tables e below (s₁.setTop (mkF m 27 #[.val (.ref na), .val (.int (3 : Int32)), .val (.int (90 : Int32)), .unset, .unset, .unset] [])) _
    refine XS.iloadN X0.here hx rfl (hb hby d9_27) rfl ?_
    show Steps p.tables e below (s₁.setTop (mkF m 28 #[.val (.ref na), .val (.int (3 : Int32)), .val (.int (90 : Int32)), .unset, .unset, .unset] [(.int (90 : Int32))])) _
    refine XS.iconst X0.here hx rfl (hb hby d9_28) ?_
    show Steps p.tables e below (s₁.setTop (mkF m 29 #[.val (.ref na), .val (.int (3 : Int32)), .val (.int (90 : Int32)), .unset, .unset, .unset] [(.int (1 : Int32)), (.int (90 : Int32))])) _
    refine XS.icmpNo X0.here hx rfl (hb hby d9_29) rfl (flt (by decide : ¬ ((90 : Int32) < (1 : Int32)))).1 ?_
    show Steps p.tables e below (s₁.setTop (mkF m 32 #[.val (.ref na), .val (.int (3 : Int32)), .val (.int (90 : Int32)), .unset, .unset, .unset] [])) _
    refine XS.iloadN X0.here hx rfl (hb hby d9_32) rfl ?_
    show Steps p.tables e below (s₁.setTop (mkF m 33 #[.val (.ref na), .val (.int (3 : Int32)), .val (.int (90 : Int32)), .unset, .unset, .unset] [(.int (90 : Int32))])) _
    refine XS.bipush X0.here hx rfl (hb hby d9_33) ?_
    show Steps p.tables e below (s₁.setTop (mkF m 35 #[.val (.ref na), .val (.int (3 : Int32)), .val (.int (90 : Int32)), .unset, .unset, .unset] [(.int (100 : Int32)), (.int (90 : Int32))])) _
    refine XS.icmpYes X0.here hx rfl (pc0 := 35) (pc' := 52) rfl (hb hby d9_35) rfl (flt (by decide : ¬ ((100 : Int32) < (90 : Int32)))).2.2.2 (by decide) (by decide) ?_
    show Steps p.tables e below (s₁.setTop (mkF m 52 #[.val (.ref na), .val (.int (3 : Int32)), .val (.int (90 : Int32)), .unset, .unset, .unset] [])) _
    refine XS.aloadN X0.here hx rfl (hb hby d9_52) rfl rfl ?_
    show Steps p.tables e below (s₁.setTop (mkF m 53 #[.val (.ref na), .val (.int (3 : Int32)), .val (.int (90 : Int32)), .unset, .unset, .unset] [(.ref na)])) _
    refine XS.iloadN X0.here hx rfl (hb hby d9_53) rfl ?_
    show Steps p.tables e below (s₁.setTop (mkF m 54 #[.val (.ref na), .val (.int (3 : Int32)), .val (.int (90 : Int32)), .unset, .unset, .unset] [(.int (3 : Int32)), (.ref na)])) _
    refine st2 _ ?_
    show Steps p.tables e below (T2.setTop (mkF m 57 #[.val (.ref na), .val (.int (3 : Int32)), .val (.int (90 : Int32)), .unset, .unset, .unset] [(.ref nb_2)])) _
    refine XS.astoreN X2.here hx rfl (hb hby d9_57) rfl rfl (l' := #[.val (.ref na), .val (.int (3 : Int32)), .val (.int (90 : Int32)), .val (.ref nb_2), .unset, .unset]) rfl ?_
    show Steps p.tables e below (T2.setTop (mkF m 58 #[.val (.ref na), .val (.int (3 : Int32)), .val (.int (90 : Int32)), .val (.ref nb_2), .unset, .unset] [])) _
    refine XS.aloadN X2.here hx rfl (hb hby d9_58) rfl rfl ?_
    show Steps p.tables e below (T2.setTop (mkF m 59 #[.val (.ref na), .val (.int (3 : Int32)), .val (.int (90 : Int32)), .val (.ref nb_2), .unset, .unset] [(.ref nb_2)])) _
    refine st3 _ ?_
    show Steps p.tables e below (T3.setTop (mkF m 62 #[.val (.ref na), .val (.int (3 : Int32)), .val (.int (90 : Int32)), .val (.ref nb_2), .unset, .unset] [])) _
    refine XS.iloadN X3.here hx rfl (hb hby d9_62) rfl ?_
    show Steps p.tables e below (T3.setTop (mkF m 63 #[.val (.ref na), .val (.int (3 : Int32)), .val (.int (90 : Int32)), .val (.ref nb_2), .unset, .unset] [(.int (90 : Int32))])) _
    refine XS.i2l X3.here hx rfl (hb hby d9_63) rfl ?_
    show Steps p.tables e below (T3.setTop (mkF m 64 #[.val (.ref na), .val (.int (3 : Int32)), .val (.int (90 : Int32)), .val (.ref nb_2), .unset, .unset] [(.long ((90 : Int32).toInt64))])) _
    rw [show ((90 : Int32).toInt64) = (90 : Int64) from by decide]
    show Steps p.tables e below (T3.setTop (mkF m 64 #[.val (.ref na), .val (.int (3 : Int32)), .val (.int (90 : Int32)), .val (.ref nb_2), .unset, .unset] [(.long (90 : Int64))])) _
    refine XS.iloadN X3.here hx rfl (hb hby d9_64) rfl ?_
    show Steps p.tables e below (T3.setTop (mkF m 65 #[.val (.ref na), .val (.int (3 : Int32)), .val (.int (90 : Int32)), .val (.ref nb_2), .unset, .unset] [(.int (3 : Int32)), (.long (90 : Int64))])) _
    refine XS.i2l X3.here hx rfl (hb hby d9_65) rfl ?_
    show Steps p.tables e below (T3.setTop (mkF m 66 #[.val (.ref na), .val (.int (3 : Int32)), .val (.int (90 : Int32)), .val (.ref nb_2), .unset, .unset] [(.long ((3 : Int32).toInt64)), (.long (90 : Int64))])) _
    rw [show ((3 : Int32).toInt64) = (3 : Int64) from by decide]
    show Steps p.tables e below (T3.setTop (mkF m 66 #[.val (.ref na), .val (.int (3 : Int32)), .val (.int (90 : Int32)), .val (.ref nb_2), .unset, .unset] [(.long (3 : Int64)), (.long (90 : Int64))])) _
    refine XS.lmul X3.here hx rfl (hb hby d9_66) rfl ?_
    show Steps p.tables e below (T3.setTop (mkF m 67 #[.val (.ref na), .val (.int (3 : Int32)), .val (.int (90 : Int32)), .val (.ref nb_2), .unset, .unset] [(.long ((90 : Int64) * (3 : Int64)))])) _
    rw [show ((90 : Int64) * (3 : Int64)) = (270 : Int64) from by decide]
    show Steps p.tables e below (T3.setTop (mkF m 67 #[.val (.ref na), .val (.int (3 : Int32)), .val (.int (90 : Int32)), .val (.ref nb_2), .unset, .unset] [(.long (270 : Int64))])) _
    refine X3.ldc2Long hx hown (mvT hZ (hw _ (List.mem_of_getElem? (i := 57) rfl))) (g := (mkF m 67 #[.val (.ref na), .val (.int (3 : Int32)), .val (.int (90 : Int32)), .val (.ref nb_2), .unset, .unset] [(.long (270 : Int64))])) rfl (hb hby d9_67) _ ?_
    show Steps p.tables e below (T3.setTop (mkF m 70 #[.val (.ref na), .val (.int (3 : Int32)), .val (.int (90 : Int32)), .val (.ref nb_2), .unset, .unset] [(.long (99 : Int64)), (.long (270 : Int64))])) _
    refine XS.ladd X3.here hx rfl (hb hby d9_70) rfl ?_
    show Steps p.tables e below (T3.setTop (mkF m 71 #[.val (.ref na), .val (.int (3 : Int32)), .val (.int (90 : Int32)), .val (.ref nb_2), .unset, .unset] [(.long ((270 : Int64) + (99 : Int64)))])) _
    rw [show ((270 : Int64) + (99 : Int64)) = (369 : Int64) from by decide]
    show Steps p.tables e below (T3.setTop (mkF m 71 #[.val (.ref na), .val (.int (3 : Int32)), .val (.int (90 : Int32)), .val (.ref nb_2), .unset, .unset] [(.long (369 : Int64))])) _
    refine X3.ldc2Long hx hown (mvT hZ (hw _ (List.mem_of_getElem? (i := 58) rfl))) (g := (mkF m 71 #[.val (.ref na), .val (.int (3 : Int32)), .val (.int (90 : Int32)), .val (.ref nb_2), .unset, .unset] [(.long (369 : Int64))])) rfl (hb hby d9_71) _ ?_
    show Steps p.tables e below (T3.setTop (mkF m 74 #[.val (.ref na), .val (.int (3 : Int32)), .val (.int (90 : Int32)), .val (.ref nb_2), .unset, .unset] [(.long (100 : Int64)), (.long (369 : Int64))])) _
    refine XS.ldiv X3.here hx rfl (hb hby d9_74) rfl (by decide) ?_
    show Steps p.tables e below (T3.setTop (mkF m 75 #[.val (.ref na), .val (.int (3 : Int32)), .val (.int (90 : Int32)), .val (.ref nb_2), .unset, .unset] [(.long ((369 : Int64) / (100 : Int64)))])) _
    rw [show ((369 : Int64) / (100 : Int64)) = (3 : Int64) from by decide]
    show Steps p.tables e below (T3.setTop (mkF m 75 #[.val (.ref na), .val (.int (3 : Int32)), .val (.int (90 : Int32)), .val (.ref nb_2), .unset, .unset] [(.long (3 : Int64))])) _
    refine XS.lstore X3.here hx rfl (hb hby d9_75) rfl (l' := #[.val (.ref na), .val (.int (3 : Int32)), .val (.int (90 : Int32)), .val (.ref nb_2), .val (.long (3 : Int64)), .second]) rfl ?_
    show Steps p.tables e below (T3.setTop (mkF m 77 #[.val (.ref na), .val (.int (3 : Int32)), .val (.int (90 : Int32)), .val (.ref nb_2), .val (.long (3 : Int64)), .second] [])) _
    refine XS.aloadN X3.here hx rfl (hb hby d9_77) rfl rfl ?_
    show Steps p.tables e below (T3.setTop (mkF m 78 #[.val (.ref na), .val (.int (3 : Int32)), .val (.int (90 : Int32)), .val (.ref nb_2), .val (.long (3 : Int64)), .second] [(.ref nb_2)])) _
    refine XS.lload X3.here hx rfl (hb hby d9_78) rfl ?_
    show Steps p.tables e below (T3.setTop (mkF m 80 #[.val (.ref na), .val (.int (3 : Int32)), .val (.int (90 : Int32)), .val (.ref nb_2), .val (.long (3 : Int64)), .second] [(.long (3 : Int64)), (.ref nb_2)])) _
    refine XS.l2i X3.here hx rfl (hb hby d9_80) rfl ?_
    show Steps p.tables e below (T3.setTop (mkF m 81 #[.val (.ref na), .val (.int (3 : Int32)), .val (.int (90 : Int32)), .val (.ref nb_2), .val (.long (3 : Int64)), .second] [(.int ((3 : Int64).toInt32)), (.ref nb_2)])) _
    rw [show ((3 : Int64).toInt32) = (3 : Int32) from by decide]
    show Steps p.tables e below (T3.setTop (mkF m 81 #[.val (.ref na), .val (.int (3 : Int32)), .val (.int (90 : Int32)), .val (.ref nb_2), .val (.long (3 : Int64)), .second] [(.int (3 : Int32)), (.ref nb_2)])) _
    refine XS.iconst X3.here hx rfl (hb hby d9_81) ?_
    show Steps p.tables e below (T3.setTop (mkF m 82 #[.val (.ref na), .val (.int (3 : Int32)), .val (.int (90 : Int32)), .val (.ref nb_2), .val (.long (3 : Int64)), .second] [(.int (1 : Int32)), (.int (3 : Int32)), (.ref nb_2)])) _
    refine XS.isub X3.here hx rfl (hb hby d9_82) rfl ?_
    show Steps p.tables e below (T3.setTop (mkF m 83 #[.val (.ref na), .val (.int (3 : Int32)), .val (.int (90 : Int32)), .val (.ref nb_2), .val (.long (3 : Int64)), .second] [(.int ((3 : Int32) - (1 : Int32))), (.ref nb_2)])) _
    rw [show ((3 : Int32) - (1 : Int32)) = (2 : Int32) from by decide]
    show Steps p.tables e below (T3.setTop (mkF m 83 #[.val (.ref na), .val (.int (3 : Int32)), .val (.int (90 : Int32)), .val (.ref nb_2), .val (.long (3 : Int64)), .second] [(.int (2 : Int32)), (.ref nb_2)])) _
    refine X3.laload hx (j := (2 : Int32)) (v := (.long (own_mx (own_mx x0 x1) x2))) Ar4.1 (State.isArrayOf_alike hZ.alike Ar4.2.1) Ar4.2.2 hin4 hat4 (g := (mkF m 83 #[.val (.ref na), .val (.int (3 : Int32)), .val (.int (90 : Int32)), .val (.ref nb_2), .val (.long (3 : Int64)), .second] [(.int (2 : Int32)), (.ref nb_2)])) rfl rfl (hb hby d9_83) _ ?_
    show Steps p.tables e below (T3.setTop (mkF m 84 #[.val (.ref na), .val (.int (3 : Int32)), .val (.int (90 : Int32)), .val (.ref nb_2), .val (.long (3 : Int64)), .second] [(.long (own_mx (own_mx x0 x1) x2))])) _
    exact retOut X3 hx Bd.returns rfl (Or.inr (Or.inl ⟨rfl, rfl, _, rfl⟩)) (hb hby d9_84) hr
  · show Q_rmN3 Z na ka x0 x1 x2 x3 h0 n0 _ T3.heap _
    exact ⟨rfl, N3, (((Keep.refl h0 []).trans Kp2 all0).trans Kp3 (allS (Or.inr (Nat.le_trans (Nat.le_refl h0.size) gb2_0)) all0)), f5⟩
def Q_rmN4 (Z : State) (na : Addr) (ka : ClassId) (x0 : Int64) (x1 : Int64) (x2 : Int64) (x3 : Int64) (h0 : Heap) (n0 : Nat) (v : Option Value) (h : Heap) (L : List Loc) : Prop := v = some (.long (own_mx (own_mx (own_mx x0 x1) x2) x3)) ∧ Fr n0 L ∧ Keep h0 h [] ∧ Arv Z h na ka .long (100 : Int32) [(.long x0), (.long x1), (.long x2), (.long x3)] (.long (0 : Int64))
theorem ef_rmN4 (m : MethodId) (na : Addr) : entryFrame m #[(.ref na), (.int (4 : Int32)), (.int (90 : Int32))] 6 = mkF m 0 #[.val (.ref na), .val (.int (4 : Int32)), .val (.int (90 : Int32)), .unset, .unset, .unset] [] := by first | (simp [entryFrame, mkF, argsToLocals, Value.category]; done) | rfl
set_option maxRecDepth 65536 in
set_option maxHeartbeats 40000000 in
theorem rmN4 (l : Launch) (Z : State) (a0 : Array Value) (hw : ∀ d ∈ tables_1, d.before a0 Z = true) (ws : List Jvm.Cond) (na : Addr) (ka : ClassId) (x0 : Int64) (x1 : Int64) (x2 : Int64) (x3 : Int64) (h0 : Heap) (n0 : Nat) (Z0 : n0 ≤ h0.size) (V_na : Arv Z h0 na ka .long (100 : Int32) [(.long x0), (.long x1), (.long x2), (.long x3)] (.long (0 : Int64))) :
    MetFree l (⟨"com/example/tolc/tolc/Percentiles", "nearestRank", "([JII)J"⟩ : MethodName) (head1 (Jvm.Cond.code (⟨"com/example/tolc/tolc/Percentiles", "nearestRank", "([JII)J"⟩ : MethodName) prog_14_method_2_code 6 (some .long) :: ws) ({ frames := 4, cells := 1, slots := 4, locals := 84 } : Room)) (fun a U => a = #[(.ref na), (.int (4 : Int32)), (.int (90 : Int32))] ∧ Z.Warmed39 U.vm ∧ U.heap = h0) (fun _ _ _ _ _ => True) (fun _ U o U' => ∃ v L, o = .returned v ∧ Q_rmN4 Z na ka x0 x1 x2 x3 h0 n0 v U'.heap L ∧ FrameEnd U o U' L ({ frames := 4, cells := 1, slots := 4, locals := 84 } : Room).cells ({ frames := 4, cells := 1, slots := 4, locals := 84 } : Room).slots) := by
  refine MetFree.of_bodySF (plainFor_of_name pn_3) hisR ?_
  intro p e s m args below meth c s₁ Bd hml0 hP hK
  obtain ⟨rfl, hZ, hh⟩ := hP
  have hx := Bd.exec
  have hby := Bd.bytes
  have hml : c.maxLocals = 6 := hml0
  have hown : s.vm.findClass "com/example/tolc/tolc/Percentiles" = some m.cls := findClass_of_methodNamed Bd.named
  have hnm := (name_of_methodNamed Bd.named Bd.method).1
  have X0 : Stand p l e ({ frames := 4, cells := 1, slots := 4, locals := 84 } : Room) s m #[(.ref na), (.int (4 : Int32)), (.int (90 : Int32))] below meth c s₁ [] 0 0 := Stand.of_body Bd
  have e0 : s₁.heap = h0 := by rw [← hh, Bd.state]; rfl
  have N0 := Fr.nil n0
  have pre0 : ∀ t, Steps p.tables e below (s₁.setTop (mkF m 0 #[.val (.ref na), .val (.int (4 : Int32)), .val (.int (90 : Int32)), .unset, .unset, .unset] [])) t → Steps p.tables e below (s₁.setTop (entryFrame m #[(.ref na), (.int (4 : Int32)), (.int (90 : Int32))] 6)) t := fun t k => castTop (ef_rmN4 m na) k
  have Vc1 := V_na
  obtain ⟨cl1, Ar1, -, S1, M1, -, -⟩ := Vc1
  obtain ⟨_, _, ⟨T2, L2, k2, n2⟩, -, X2, ⟨Lc2, hQ2, l2, y2, z2⟩, st2⟩ := Jvm.LawKit.callS X0 hx (y := (⟨"java/util/Arrays", "copyOf", "([JI)[J"⟩ : MethodName)) hown (mvT hZ (hw _ (List.mem_of_getElem? (i := 35) rfl))) (mvT hZ (hw _ (List.mem_of_getElem? (i := 36) rfl))) (mvT hZ (hw _ (List.mem_of_getElem? (i := 37) rfl))) (mvT hZ (hw _ (List.mem_of_getElem? (i := 38) rfl))) (by decide) (backOf (W := 0) (rmC4 l Z a0 hw [] na ka x0 x1 x2 x3 h0 n0 Z0 V_na) hZ (hw _ (List.mem_of_getElem? (i := 38) rfl)) (hw _ (List.mem_of_getElem? (i := 37) rfl)) (by decide) (by decide)) (g := (mkF m 54 #[.val (.ref na), .val (.int (4 : Int32)), .val (.int (90 : Int32)), .unset, .unset, .unset] [(.int (4 : Int32)), (.ref na)])) rfl (by rw [hml]; rfl) (argsL := [(.ref na), (.int (4 : Int32))]) (rest := []) (lenOf pd_4 rfl) rfl (by show 2 * 0 + _ ≤ _; exact Nat.le_of_eq rfl) (hb hby d9_54) (fun _ _ => ⟨rfl, e0, (by decide : 0 + 1 ≤ _), (by decide : 0 + 4 ≤ _)⟩)
  dsimp only [Pt.U, Pt.locs, Pt.cells, Pt.slots] at X2 l2 y2 z2 st2 hQ2
  subst l2 y2 z2
  obtain ⟨nb_2, kb_2, rfl, Nq2, gb2_0, Kp2, Fq2_0⟩ := hQ2
  have N2 := Fr.app N0 Nq2
  obtain ⟨_, _, ⟨T3, L3, k3, n3⟩, -, X3, ⟨Lc3, hQ3, l3, y3, z3⟩, st3⟩ := Jvm.LawKit.callS X2 hx (y := (⟨"java/util/Arrays", "sort", "([J)V"⟩ : MethodName)) hown (mvT hZ (hw _ (List.mem_of_getElem? (i := 44) rfl))) (mvT hZ (hw _ (List.mem_of_getElem? (i := 45) rfl))) (mvT hZ (hw _ (List.mem_of_getElem? (i := 37) rfl))) (mvT hZ (hw _ (List.mem_of_getElem? (i := 46) rfl))) (by decide) (backOf (W := 0) (rmS1_4 l Z a0 hw [] nb_2 kb_2 x0 x1 x2 x3 T2.heap n0 (Nat.le_trans Z0 Kp2.1) Fq2_0 (Nat.le_trans Z0 gb2_0)) hZ (hw _ (List.mem_of_getElem? (i := 46) rfl)) (hw _ (List.mem_of_getElem? (i := 37) rfl)) (by decide) (by decide)) (g := (mkF m 59 #[.val (.ref na), .val (.int (4 : Int32)), .val (.int (90 : Int32)), .val (.ref nb_2), .unset, .unset] [(.ref nb_2)])) rfl (by rw [hml]; rfl) (argsL := [(.ref nb_2)]) (rest := []) (lenOf pd_5 rfl) rfl (by show 2 * 0 + _ ≤ _; exact Nat.le_of_eq rfl) (hb hby d9_59) (fun _ _ => ⟨rfl, rfl, (by decide : 1 + 0 ≤ _), (by decide : 4 + 0 ≤ _)⟩)
  dsimp only [Pt.U, Pt.locs, Pt.cells, Pt.slots] at X3 l3 y3 z3 st3 hQ3
  subst l3 y3 z3
  obtain ⟨y0_3, y1_3, y2_3, rfl, Nq3, Kp3, Fq3_0⟩ := hQ3
  have N3 := Fr.app N2 Nq3
  have Vc4 := Fq3_0
  obtain ⟨cl4, Ar4, q4, S4, M4, H4, G4⟩ := Vc4
  have hin4 : ¬ ((3 : Int32) < 0 ∨ cl4.slots.size ≤ ((3 : Int32)).toNatClampNeg) := inb_of S4 ⟨by decide, by decide⟩
  have hat4 : cl4.slots[((3 : Int32)).toNatClampNeg]? = some (.long (own_mx (own_mx (own_mx x0 x1) x2) x3)) := Has.at H4 hin4 rfl
  have f5 : Arv Z T3.heap na ka .long (100 : Int32) [(.long x0), (.long x1), (.long x2), (.long x3)] (.long (0 : Int64)) := ((V_na.keep Kp2 nin0).keep Kp3 (ninS (Nat.ne_of_lt (Nat.lt_of_lt_of_le V_na.lt gb2_0)) nin0))
  obtain ⟨fs, hr, hrun, hended, hW, hsame⟩ := X3.leave (v := some (.long (own_mx (own_mx (own_mx x0 x1) x2) x3))) (fun h => by rw [Bd.returns] at h; cases h)
  refine ⟨_, _, pre0 _ ?_, hrun, hended, _, _, rfl, ?_, ⟨_, rfl⟩, hW, hsame.mono (by decide) (by decide)⟩
  · show Steps p.tables e below (s₁.setTop (mkF m 0 #[.val (.ref na), .val (.int (4 : Int32)), .val (.int (90 : Int32)), .unset, .unset, .unset] [])) _
    refine XS.iloadN X0.here hx rfl (hb hby d9_0) rfl ?_
    show Steps p.tables e below (s₁.setTop (mkF m 1 #[.val (.ref na), .val (.int (4 : Int32)), .val (.int (90 : Int32)), .unset, .unset, .unset] [(.int (4 : Int32))])) _
    refine XS.iconst X0.here hx rfl (hb hby d9_1) ?_
    show Steps p.tables e below (s₁.setTop (mkF m 2 #[.val (.ref na), .val (.int (4 : Int32)), .val (.int (90 : Int32)), .unset, .unset, .unset] [(.int (1 : Int32)), (.int (4 : Int32))])) _
    refine XS.icmpNo X0.here hx rfl (hb hby d9_2) rfl (flt (by decide : ¬ ((4 : Int32) < (1 : Int32)))).1 ?_
    show Steps p.tables e below (s₁.setTop (mkF m 5 #[.val (.ref na), .val (.int (4 : Int32)), .val (.int (90 : Int32)), .unset, .unset, .unset] [])) _
    refine XS.iloadN X0.here hx rfl (hb hby d9_5) rfl ?_
    show Steps p.tables e below (s₁.setTop (mkF m 6 #[.val (.ref na), .val (.int (4 : Int32)), .val (.int (90 : Int32)), .unset, .unset, .unset] [(.int (4 : Int32))])) _
    refine XS.aloadN X0.here hx rfl (hb hby d9_6) rfl rfl ?_
    show Steps p.tables e below (s₁.setTop (mkF m 7 #[.val (.ref na), .val (.int (4 : Int32)), .val (.int (90 : Int32)), .unset, .unset, .unset] [(.ref na), (.int (4 : Int32))])) _
    refine X0.arraylength hx (cell := cl1) (by rw [e0]; exact Ar1.1) (State.isArrayOf_alike hZ.alike Ar1.2.1) (g := (mkF m 7 #[.val (.ref na), .val (.int (4 : Int32)), .val (.int (90 : Int32)), .unset, .unset, .unset] [(.ref na), (.int (4 : Int32))])) rfl (rest := [(.int (4 : Int32))]) rfl (hb hby d9_7) _ ?_
    rw [len_of S1 M1]
    show Steps p.tables e below (s₁.setTop (mkF m 8 #[.val (.ref na), .val (.int (4 : Int32)), .val (.int (90 : Int32)), .unset, .unset, .unset] [(.int (100 : Int32)), (.int (4 : Int32))])) _
    refine XS.icmpYes X0.here hx rfl (pc0 := 8) (pc' := 27) rfl (hb hby d9_8) rfl (flt (by decide : ¬ ((100 : Int32) < (4 : Int32)))).2.2.2 (by decide) (by decide) ?_
    show Steps p.tables e below (s₁.setTop (mkF m 27 #[.val (.ref na), .val (.int (4 : Int32)), .val (.int (90 : Int32)), .unset, .unset, .unset] [])) _
    refine XS.iloadN X0.here hx rfl (hb hby d9_27) rfl ?_
    show Steps p.tables e below (s₁.setTop (mkF m 28 #[.val (.ref na), .val (.int (4 : Int32)), .val (.int (90 : Int32)), .unset, .unset, .unset] [(.int (90 : Int32))])) _
    refine XS.iconst X0.here hx rfl (hb hby d9_28) ?_
    show Steps p.tables e below (s₁.setTop (mkF m 29 #[.val (.ref na), .val (.int (4 : Int32)), .val (.int (90 : Int32)), .unset, .unset, .unset] [(.int (1 : Int32)), (.int (90 : Int32))])) _
    refine XS.icmpNo X0.here hx rfl (hb hby d9_29) rfl (flt (by decide : ¬ ((90 : Int32) < (1 : Int32)))).1 ?_
    show Steps p.tables e below (s₁.setTop (mkF m 32 #[.val (.ref na), .val (.int (4 : Int32)), .val (.int (90 : Int32)), .unset, .unset, .unset] [])) _
    refine XS.iloadN X0.here hx rfl (hb hby d9_32) rfl ?_
    show Steps p.tables e below (s₁.setTop (mkF m 33 #[.val (.ref na), .val (.int (4 : Int32)), .val (.int (90 : Int32)), .unset, .unset, .unset] [(.int (90 : Int32))])) _
    refine XS.bipush X0.here hx rfl (hb hby d9_33) ?_
    show Steps p.tables e below (s₁.setTop (mkF m 35 #[.val (.ref na), .val (.int (4 : Int32)), .val (.int (90 : Int32)), .unset, .unset, .unset] [(.int (100 : Int32)), (.int (90 : Int32))])) _
    refine XS.icmpYes X0.here hx rfl (pc0 := 35) (pc' := 52) rfl (hb hby d9_35) rfl (flt (by decide : ¬ ((100 : Int32) < (90 : Int32)))).2.2.2 (by decide) (by decide) ?_
    show Steps p.tables e below (s₁.setTop (mkF m 52 #[.val (.ref na), .val (.int (4 : Int32)), .val (.int (90 : Int32)), .unset, .unset, .unset] [])) _
    refine XS.aloadN X0.here hx rfl (hb hby d9_52) rfl rfl ?_
    show Steps p.tables e below (s₁.setTop (mkF m 53 #[.val (.ref na), .val (.int (4 : Int32)), .val (.int (90 : Int32)), .unset, .unset, .unset] [(.ref na)])) _
    refine XS.iloadN X0.here hx rfl (hb hby d9_53) rfl ?_
    show Steps p.tables e below (s₁.setTop (mkF m 54 #[.val (.ref na), .val (.int (4 : Int32)), .val (.int (90 : Int32)), .unset, .unset, .unset] [(.int (4 : Int32)), (.ref na)])) _
    refine st2 _ ?_
    show Steps p.tables e below (T2.setTop (mkF m 57 #[.val (.ref na), .val (.int (4 : Int32)), .val (.int (90 : Int32)), .unset, .unset, .unset] [(.ref nb_2)])) _
    refine XS.astoreN X2.here hx rfl (hb hby d9_57) rfl rfl (l' := #[.val (.ref na), .val (.int (4 : Int32)), .val (.int (90 : Int32)), .val (.ref nb_2), .unset, .unset]) rfl ?_
    show Steps p.tables e below (T2.setTop (mkF m 58 #[.val (.ref na), .val (.int (4 : Int32)), .val (.int (90 : Int32)), .val (.ref nb_2), .unset, .unset] [])) _
    refine XS.aloadN X2.here hx rfl (hb hby d9_58) rfl rfl ?_
    show Steps p.tables e below (T2.setTop (mkF m 59 #[.val (.ref na), .val (.int (4 : Int32)), .val (.int (90 : Int32)), .val (.ref nb_2), .unset, .unset] [(.ref nb_2)])) _
    refine st3 _ ?_
    show Steps p.tables e below (T3.setTop (mkF m 62 #[.val (.ref na), .val (.int (4 : Int32)), .val (.int (90 : Int32)), .val (.ref nb_2), .unset, .unset] [])) _
    refine XS.iloadN X3.here hx rfl (hb hby d9_62) rfl ?_
    show Steps p.tables e below (T3.setTop (mkF m 63 #[.val (.ref na), .val (.int (4 : Int32)), .val (.int (90 : Int32)), .val (.ref nb_2), .unset, .unset] [(.int (90 : Int32))])) _
    refine XS.i2l X3.here hx rfl (hb hby d9_63) rfl ?_
    show Steps p.tables e below (T3.setTop (mkF m 64 #[.val (.ref na), .val (.int (4 : Int32)), .val (.int (90 : Int32)), .val (.ref nb_2), .unset, .unset] [(.long ((90 : Int32).toInt64))])) _
    rw [show ((90 : Int32).toInt64) = (90 : Int64) from by decide]
    show Steps p.tables e below (T3.setTop (mkF m 64 #[.val (.ref na), .val (.int (4 : Int32)), .val (.int (90 : Int32)), .val (.ref nb_2), .unset, .unset] [(.long (90 : Int64))])) _
    refine XS.iloadN X3.here hx rfl (hb hby d9_64) rfl ?_
    show Steps p.tables e below (T3.setTop (mkF m 65 #[.val (.ref na), .val (.int (4 : Int32)), .val (.int (90 : Int32)), .val (.ref nb_2), .unset, .unset] [(.int (4 : Int32)), (.long (90 : Int64))])) _
    refine XS.i2l X3.here hx rfl (hb hby d9_65) rfl ?_
    show Steps p.tables e below (T3.setTop (mkF m 66 #[.val (.ref na), .val (.int (4 : Int32)), .val (.int (90 : Int32)), .val (.ref nb_2), .unset, .unset] [(.long ((4 : Int32).toInt64)), (.long (90 : Int64))])) _
    rw [show ((4 : Int32).toInt64) = (4 : Int64) from by decide]
    show Steps p.tables e below (T3.setTop (mkF m 66 #[.val (.ref na), .val (.int (4 : Int32)), .val (.int (90 : Int32)), .val (.ref nb_2), .unset, .unset] [(.long (4 : Int64)), (.long (90 : Int64))])) _
    refine XS.lmul X3.here hx rfl (hb hby d9_66) rfl ?_
    show Steps p.tables e below (T3.setTop (mkF m 67 #[.val (.ref na), .val (.int (4 : Int32)), .val (.int (90 : Int32)), .val (.ref nb_2), .unset, .unset] [(.long ((90 : Int64) * (4 : Int64)))])) _
    rw [show ((90 : Int64) * (4 : Int64)) = (360 : Int64) from by decide]
    show Steps p.tables e below (T3.setTop (mkF m 67 #[.val (.ref na), .val (.int (4 : Int32)), .val (.int (90 : Int32)), .val (.ref nb_2), .unset, .unset] [(.long (360 : Int64))])) _
    refine X3.ldc2Long hx hown (mvT hZ (hw _ (List.mem_of_getElem? (i := 57) rfl))) (g := (mkF m 67 #[.val (.ref na), .val (.int (4 : Int32)), .val (.int (90 : Int32)), .val (.ref nb_2), .unset, .unset] [(.long (360 : Int64))])) rfl (hb hby d9_67) _ ?_
    show Steps p.tables e below (T3.setTop (mkF m 70 #[.val (.ref na), .val (.int (4 : Int32)), .val (.int (90 : Int32)), .val (.ref nb_2), .unset, .unset] [(.long (99 : Int64)), (.long (360 : Int64))])) _
    refine XS.ladd X3.here hx rfl (hb hby d9_70) rfl ?_
    show Steps p.tables e below (T3.setTop (mkF m 71 #[.val (.ref na), .val (.int (4 : Int32)), .val (.int (90 : Int32)), .val (.ref nb_2), .unset, .unset] [(.long ((360 : Int64) + (99 : Int64)))])) _
    rw [show ((360 : Int64) + (99 : Int64)) = (459 : Int64) from by decide]
    show Steps p.tables e below (T3.setTop (mkF m 71 #[.val (.ref na), .val (.int (4 : Int32)), .val (.int (90 : Int32)), .val (.ref nb_2), .unset, .unset] [(.long (459 : Int64))])) _
    refine X3.ldc2Long hx hown (mvT hZ (hw _ (List.mem_of_getElem? (i := 58) rfl))) (g := (mkF m 71 #[.val (.ref na), .val (.int (4 : Int32)), .val (.int (90 : Int32)), .val (.ref nb_2), .unset, .unset] [(.long (459 : Int64))])) rfl (hb hby d9_71) _ ?_
    show Steps p.tables e below (T3.setTop (mkF m 74 #[.val (.ref na), .val (.int (4 : Int32)), .val (.int (90 : Int32)), .val (.ref nb_2), .unset, .unset] [(.long (100 : Int64)), (.long (459 : Int64))])) _
    refine XS.ldiv X3.here hx rfl (hb hby d9_74) rfl (by decide) ?_
    show Steps p.tables e below (T3.setTop (mkF m 75 #[.val (.ref na), .val (.int (4 : Int32)), .val (.int (90 : Int32)), .val (.ref nb_2), .unset, .unset] [(.long ((459 : Int64) / (100 : Int64)))])) _
    rw [show ((459 : Int64) / (100 : Int64)) = (4 : Int64) from by decide]
    show Steps p.tables e below (T3.setTop (mkF m 75 #[.val (.ref na), .val (.int (4 : Int32)), .val (.int (90 : Int32)), .val (.ref nb_2), .unset, .unset] [(.long (4 : Int64))])) _
    refine XS.lstore X3.here hx rfl (hb hby d9_75) rfl (l' := #[.val (.ref na), .val (.int (4 : Int32)), .val (.int (90 : Int32)), .val (.ref nb_2), .val (.long (4 : Int64)), .second]) rfl ?_
    show Steps p.tables e below (T3.setTop (mkF m 77 #[.val (.ref na), .val (.int (4 : Int32)), .val (.int (90 : Int32)), .val (.ref nb_2), .val (.long (4 : Int64)), .second] [])) _
    refine XS.aloadN X3.here hx rfl (hb hby d9_77) rfl rfl ?_
    show Steps p.tables e below (T3.setTop (mkF m 78 #[.val (.ref na), .val (.int (4 : Int32)), .val (.int (90 : Int32)), .val (.ref nb_2), .val (.long (4 : Int64)), .second] [(.ref nb_2)])) _
    refine XS.lload X3.here hx rfl (hb hby d9_78) rfl ?_
    show Steps p.tables e below (T3.setTop (mkF m 80 #[.val (.ref na), .val (.int (4 : Int32)), .val (.int (90 : Int32)), .val (.ref nb_2), .val (.long (4 : Int64)), .second] [(.long (4 : Int64)), (.ref nb_2)])) _
    refine XS.l2i X3.here hx rfl (hb hby d9_80) rfl ?_
    show Steps p.tables e below (T3.setTop (mkF m 81 #[.val (.ref na), .val (.int (4 : Int32)), .val (.int (90 : Int32)), .val (.ref nb_2), .val (.long (4 : Int64)), .second] [(.int ((4 : Int64).toInt32)), (.ref nb_2)])) _
    rw [show ((4 : Int64).toInt32) = (4 : Int32) from by decide]
    show Steps p.tables e below (T3.setTop (mkF m 81 #[.val (.ref na), .val (.int (4 : Int32)), .val (.int (90 : Int32)), .val (.ref nb_2), .val (.long (4 : Int64)), .second] [(.int (4 : Int32)), (.ref nb_2)])) _
    refine XS.iconst X3.here hx rfl (hb hby d9_81) ?_
    show Steps p.tables e below (T3.setTop (mkF m 82 #[.val (.ref na), .val (.int (4 : Int32)), .val (.int (90 : Int32)), .val (.ref nb_2), .val (.long (4 : Int64)), .second] [(.int (1 : Int32)), (.int (4 : Int32)), (.ref nb_2)])) _
    refine XS.isub X3.here hx rfl (hb hby d9_82) rfl ?_
    show Steps p.tables e below (T3.setTop (mkF m 83 #[.val (.ref na), .val (.int (4 : Int32)), .val (.int (90 : Int32)), .val (.ref nb_2), .val (.long (4 : Int64)), .second] [(.int ((4 : Int32) - (1 : Int32))), (.ref nb_2)])) _
    rw [show ((4 : Int32) - (1 : Int32)) = (3 : Int32) from by decide]
    show Steps p.tables e below (T3.setTop (mkF m 83 #[.val (.ref na), .val (.int (4 : Int32)), .val (.int (90 : Int32)), .val (.ref nb_2), .val (.long (4 : Int64)), .second] [(.int (3 : Int32)), (.ref nb_2)])) _
    refine X3.laload hx (j := (3 : Int32)) (v := (.long (own_mx (own_mx (own_mx x0 x1) x2) x3))) Ar4.1 (State.isArrayOf_alike hZ.alike Ar4.2.1) Ar4.2.2 hin4 hat4 (g := (mkF m 83 #[.val (.ref na), .val (.int (4 : Int32)), .val (.int (90 : Int32)), .val (.ref nb_2), .val (.long (4 : Int64)), .second] [(.int (3 : Int32)), (.ref nb_2)])) rfl rfl (hb hby d9_83) _ ?_
    show Steps p.tables e below (T3.setTop (mkF m 84 #[.val (.ref na), .val (.int (4 : Int32)), .val (.int (90 : Int32)), .val (.ref nb_2), .val (.long (4 : Int64)), .second] [(.long (own_mx (own_mx (own_mx x0 x1) x2) x3))])) _
    exact retOut X3 hx Bd.returns rfl (Or.inr (Or.inl ⟨rfl, rfl, _, rfl⟩)) (hb hby d9_84) hr
  · show Q_rmN4 Z na ka x0 x1 x2 x3 h0 n0 _ T3.heap _
    exact ⟨rfl, N3, (((Keep.refl h0 []).trans Kp2 all0).trans Kp3 (allS (Or.inr (Nat.le_trans (Nat.le_refl h0.size) gb2_0)) all0)), f5⟩
theorem own_nn (q : Int64) : NoNaN64 (FP.ddiv (FP.l2d q) 4696837146684686336) := ddiv_out (l2d_fin _).noNaN (by unfold Fin64; decide) (by unfold Nz64; decide)
theorem d10_0 : decode prog_15_method_3_code 0 = .ok (.aload_n 0, 1) := by decide +kernel
theorem d10_1 : decode prog_15_method_3_code 1 = .ok (.getfield 17, 3) := by decide +kernel
theorem d10_4 : decode prog_15_method_3_code 4 = .ok (.ifCond .ne 7, 3) := by decide +kernel
theorem d10_7 : decode prog_15_method_3_code 7 = .ok (.ldc2_w 28, 3) := by decide +kernel
theorem d10_10 : decode prog_15_method_3_code 10 = .ok (.dreturn, 1) := by decide +kernel
def Q_rmP0 (Z : State) (ob : Addr) (na : Addr) (ka : ClassId) (x0 : Int64) (x1 : Int64) (x2 : Int64) (x3 : Int64) (h0 : Heap) (n0 : Nat) (v : Option Value) (h : Heap) (L : List Loc) : Prop := v = some (.double 9221120237041090560) ∧ Fr n0 L ∧ h = h0
theorem ef_rmP0 (m : MethodId) (ob : Addr) : entryFrame m #[(.ref ob)] 1 = mkF m 0 #[.val (.ref ob)] [] := by first | (simp [entryFrame, mkF, argsToLocals, Value.category]; done) | rfl
set_option maxRecDepth 65536 in
set_option maxHeartbeats 40000000 in
theorem rmP0 (l : Launch) (Z : State) (a0 : Array Value) (hw : ∀ d ∈ tables_1, d.before a0 Z = true) (ws : List Jvm.Cond) (ob : Addr) (na : Addr) (ka : ClassId) (x0 : Int64) (x1 : Int64) (x2 : Int64) (x3 : Int64) (h0 : Heap) (n0 : Nat) (Z0 : n0 ≤ h0.size) (E_ob : Exa Z h0 ob "com/example/tolc/tolc/RecentResponseTimes") (F_nanos_ob : Fld Z h0 ob "com/example/tolc/tolc/RecentResponseTimes" "nanos" "[J" (.ref na)) (F_size_ob : Fld Z h0 ob "com/example/tolc/tolc/RecentResponseTimes" "size" "I" (.int (0 : Int32))) (V_na : Arv Z h0 na ka .long (100 : Int32) [(.long x0), (.long x1), (.long x2), (.long x3)] (.long (0 : Int64))) :
    MetFree l (⟨"com/example/tolc/tolc/RecentResponseTimes", "p90Millis", "()D"⟩ : MethodName) (head1 (Jvm.Cond.code (⟨"com/example/tolc/tolc/RecentResponseTimes", "p90Millis", "()D"⟩ : MethodName) prog_15_method_3_code 1 (some .double) :: ws) ({ frames := 0, cells := 0, slots := 0, locals := 0 } : Room)) (fun a U => a = #[(.ref ob)] ∧ Z.Warmed39 U.vm ∧ U.heap = h0) (fun _ _ _ _ _ => True) (fun _ U o U' => ∃ v L, o = .returned v ∧ Q_rmP0 Z ob na ka x0 x1 x2 x3 h0 n0 v U'.heap L ∧ FrameEnd U o U' L ({ frames := 0, cells := 0, slots := 0, locals := 0 } : Room).cells ({ frames := 0, cells := 0, slots := 0, locals := 0 } : Room).slots) := by
  refine MetFree.of_bodySF (plainFor_of_name pn_0) hisR ?_
  intro p e s m args below meth c s₁ Bd hml0 hP hK
  obtain ⟨rfl, hZ, hh⟩ := hP
  have hx := Bd.exec
  have hby := Bd.bytes
  have hml : c.maxLocals = 1 := hml0
  have hown : s.vm.findClass "com/example/tolc/tolc/RecentResponseTimes" = some m.cls := findClass_of_methodNamed Bd.named
  have hnm := (name_of_methodNamed Bd.named Bd.method).1
  have X0 : Stand p l e ({ frames := 0, cells := 0, slots := 0, locals := 0 } : Room) s m #[(.ref ob)] below meth c s₁ [] 0 0 := Stand.of_body Bd
  have e0 : s₁.heap = h0 := by rw [← hh, Bd.state]; rfl
  have N0 := Fr.nil n0
  have pre0 : ∀ t, Steps p.tables e below (s₁.setTop (mkF m 0 #[.val (.ref ob)] [])) t → Steps p.tables e below (s₁.setTop (entryFrame m #[(.ref ob)] 1)) t := fun t k => castTop (ef_rmP0 m ob) k
  obtain ⟨T1, X1, e1, st1⟩ := getF X0 hx hZ hown (host := "") (Or.inl (hw _ (List.mem_of_getElem? (i := 20) rfl))) Via.refl e0 F_size_ob (g := (mkF m 1 #[.val (.ref ob)] [(.ref ob)])) rfl rfl (hb hby d10_1)
  obtain ⟨fs, hr, hrun, hended, hW, hsame⟩ := X1.leave (v := some (.double 9221120237041090560)) (fun h => by rw [Bd.returns] at h; cases h)
  refine ⟨_, _, pre0 _ ?_, hrun, hended, _, _, rfl, ?_, ⟨_, rfl⟩, hW, hsame.mono (by decide) (by decide)⟩
  · show Steps p.tables e below (s₁.setTop (mkF m 0 #[.val (.ref ob)] [])) _
    refine XS.aloadN X0.here hx rfl (hb hby d10_0) rfl rfl ?_
    show Steps p.tables e below (s₁.setTop (mkF m 1 #[.val (.ref ob)] [(.ref ob)])) _
    refine st1 _ ?_
    show Steps p.tables e below (T1.setTop (mkF m 4 #[.val (.ref ob)] [(.int (0 : Int32))])) _
    refine XS.ifNo X1.here hx rfl (hb hby d10_4) rfl ((if0 _ _).trans (teq (rfl : (0 : Int32) = (0 : Int32))).2) ?_
    show Steps p.tables e below (T1.setTop (mkF m 7 #[.val (.ref ob)] [])) _
    refine X1.ldc2DoubleC hx hown (mvT hZ (hw _ (List.mem_of_getElem? (i := 64) rfl))) (g := (mkF m 7 #[.val (.ref ob)] [])) rfl (hb hby d10_7) _ ?_
    show Steps p.tables e below (T1.setTop (mkF m 10 #[.val (.ref ob)] [(.double 9221120237041090560)])) _
    exact retOut X1 hx Bd.returns rfl (Or.inr (Or.inr (Or.inl ⟨rfl, rfl, _, rfl⟩))) (hb hby d10_10) hr
  · show Q_rmP0 Z ob na ka x0 x1 x2 x3 h0 n0 _ T1.heap _
    rw [e1]
    exact ⟨rfl, N0, rfl⟩
theorem d10_11 : decode prog_15_method_3_code 11 = .ok (.aload_n 0, 1) := by decide +kernel
theorem d10_12 : decode prog_15_method_3_code 12 = .ok (.getfield 9, 3) := by decide +kernel
theorem d10_15 : decode prog_15_method_3_code 15 = .ok (.aload_n 0, 1) := by decide +kernel
theorem d10_16 : decode prog_15_method_3_code 16 = .ok (.getfield 17, 3) := by decide +kernel
theorem d10_19 : decode prog_15_method_3_code 19 = .ok (.bipush 90, 2) := by decide +kernel
theorem d10_21 : decode prog_15_method_3_code 21 = .ok (.invokestatic 30, 3) := by decide +kernel
theorem pd_6 : parseMethodDescriptor "([JII)J" = some ⟨[(.array .long), .int, .int], some .long⟩ := by decide +kernel
theorem d10_24 : decode prog_15_method_3_code 24 = .ok (.l2d, 1) := by decide +kernel
theorem d10_25 : decode prog_15_method_3_code 25 = .ok (.ldc2_w 36, 3) := by decide +kernel
theorem d10_28 : decode prog_15_method_3_code 28 = .ok (.ddiv, 1) := by decide +kernel
theorem d10_29 : decode prog_15_method_3_code 29 = .ok (.dreturn, 1) := by decide +kernel
def Q_rmP1 (Z : State) (ob : Addr) (na : Addr) (ka : ClassId) (x0 : Int64) (x1 : Int64) (x2 : Int64) (x3 : Int64) (h0 : Heap) (n0 : Nat) (v : Option Value) (h : Heap) (L : List Loc) : Prop := v = some (.double (FP.ddiv (FP.l2d x0) 4696837146684686336)) ∧ Fr n0 L ∧ Keep h0 h []
theorem ef_rmP1 (m : MethodId) (ob : Addr) : entryFrame m #[(.ref ob)] 1 = mkF m 0 #[.val (.ref ob)] [] := by first | (simp [entryFrame, mkF, argsToLocals, Value.category]; done) | rfl
set_option maxRecDepth 65536 in
set_option maxHeartbeats 40000000 in
theorem rmP1 (l : Launch) (Z : State) (a0 : Array Value) (hw : ∀ d ∈ tables_1, d.before a0 Z = true) (ws : List Jvm.Cond) (ob : Addr) (na : Addr) (ka : ClassId) (x0 : Int64) (x1 : Int64) (x2 : Int64) (x3 : Int64) (h0 : Heap) (n0 : Nat) (Z0 : n0 ≤ h0.size) (E_ob : Exa Z h0 ob "com/example/tolc/tolc/RecentResponseTimes") (F_nanos_ob : Fld Z h0 ob "com/example/tolc/tolc/RecentResponseTimes" "nanos" "[J" (.ref na)) (F_size_ob : Fld Z h0 ob "com/example/tolc/tolc/RecentResponseTimes" "size" "I" (.int (1 : Int32))) (V_na : Arv Z h0 na ka .long (100 : Int32) [(.long x0), (.long x1), (.long x2), (.long x3)] (.long (0 : Int64))) :
    MetFree l (⟨"com/example/tolc/tolc/RecentResponseTimes", "p90Millis", "()D"⟩ : MethodName) (head1 (Jvm.Cond.code (⟨"com/example/tolc/tolc/RecentResponseTimes", "p90Millis", "()D"⟩ : MethodName) prog_15_method_3_code 1 (some .double) :: ws) ({ frames := 5, cells := 1, slots := 1, locals := 101 } : Room)) (fun a U => a = #[(.ref ob)] ∧ Z.Warmed39 U.vm ∧ U.heap = h0) (fun _ _ _ _ _ => True) (fun _ U o U' => ∃ v L, o = .returned v ∧ Q_rmP1 Z ob na ka x0 x1 x2 x3 h0 n0 v U'.heap L ∧ FrameEnd U o U' L ({ frames := 5, cells := 1, slots := 1, locals := 101 } : Room).cells ({ frames := 5, cells := 1, slots := 1, locals := 101 } : Room).slots) := by
  refine MetFree.of_bodySF (plainFor_of_name pn_0) hisR ?_
  intro p e s m args below meth c s₁ Bd hml0 hP hK
  obtain ⟨rfl, hZ, hh⟩ := hP
  have hx := Bd.exec
  have hby := Bd.bytes
  have hml : c.maxLocals = 1 := hml0
  have hown : s.vm.findClass "com/example/tolc/tolc/RecentResponseTimes" = some m.cls := findClass_of_methodNamed Bd.named
  have hnm := (name_of_methodNamed Bd.named Bd.method).1
  have X0 : Stand p l e ({ frames := 5, cells := 1, slots := 1, locals := 101 } : Room) s m #[(.ref ob)] below meth c s₁ [] 0 0 := Stand.of_body Bd
  have e0 : s₁.heap = h0 := by rw [← hh, Bd.state]; rfl
  have N0 := Fr.nil n0
  have pre0 : ∀ t, Steps p.tables e below (s₁.setTop (mkF m 0 #[.val (.ref ob)] [])) t → Steps p.tables e below (s₁.setTop (entryFrame m #[(.ref ob)] 1)) t := fun t k => castTop (ef_rmP1 m ob) k
  obtain ⟨T1, X1, e1, st1⟩ := getF X0 hx hZ hown (host := "") (Or.inl (hw _ (List.mem_of_getElem? (i := 20) rfl))) Via.refl e0 F_size_ob (g := (mkF m 1 #[.val (.ref ob)] [(.ref ob)])) rfl rfl (hb hby d10_1)
  obtain ⟨T2, X2, e2, st2⟩ := getF X1 hx hZ hown (host := "") (Or.inl (hw _ (List.mem_of_getElem? (i := 11) rfl))) Via.refl e1 F_nanos_ob (g := (mkF m 12 #[.val (.ref ob)] [(.ref ob)])) rfl rfl (hb hby d10_12)
  obtain ⟨T3, X3, e3, st3⟩ := getF X2 hx hZ hown (host := "") (Or.inl (hw _ (List.mem_of_getElem? (i := 20) rfl))) Via.refl e2 F_size_ob (g := (mkF m 16 #[.val (.ref ob)] [(.ref ob), (.ref na)])) rfl rfl (hb hby d10_16)
  obtain ⟨_, _, ⟨T4, L4, k4, n4⟩, -, X4, ⟨Lc4, hQ4, l4, y4, z4⟩, st4⟩ := Jvm.LawKit.callS X3 hx (y := (⟨"com/example/tolc/tolc/Percentiles", "nearestRank", "([JII)J"⟩ : MethodName)) hown (mvT hZ (hw _ (List.mem_of_getElem? (i := 31) rfl))) (mvT hZ (hw _ (List.mem_of_getElem? (i := 32) rfl))) (mvT hZ (hw _ (List.mem_of_getElem? (i := 33) rfl))) (mvT hZ (hw _ (List.mem_of_getElem? (i := 34) rfl))) (by decide) (backOf (W := 0) (rmN1 l Z a0 hw [] na ka x0 x1 x2 x3 h0 n0 Z0 V_na) hZ (hw _ (List.mem_of_getElem? (i := 34) rfl)) (hw _ (List.mem_of_getElem? (i := 33) rfl)) (by decide) (by decide)) (g := (mkF m 21 #[.val (.ref ob)] [(.int (90 : Int32)), (.int (1 : Int32)), (.ref na)])) rfl (by rw [hml]; rfl) (argsL := [(.ref na), (.int (1 : Int32)), (.int (90 : Int32))]) (rest := []) (lenOf pd_6 rfl) rfl (by show 2 * 0 + _ ≤ _; exact Nat.le_of_eq rfl) (hb hby d10_21) (fun _ _ => ⟨rfl, e3, (by decide : 0 + 1 ≤ _), (by decide : 0 + 1 ≤ _)⟩)
  dsimp only [Pt.U, Pt.locs, Pt.cells, Pt.slots] at X4 l4 y4 z4 st4 hQ4
  subst l4 y4 z4
  obtain ⟨rfl, Nq4, Kp4, Fq4_0⟩ := hQ4
  have N4 := Fr.app N0 Nq4
  obtain ⟨fs, hr, hrun, hended, hW, hsame⟩ := X4.leave (v := some (.double (FP.ddiv (FP.l2d x0) 4696837146684686336))) (fun h => by rw [Bd.returns] at h; cases h)
  refine ⟨_, _, pre0 _ ?_, hrun, hended, _, _, rfl, ?_, ⟨_, rfl⟩, hW, hsame.mono (by decide) (by decide)⟩
  · show Steps p.tables e below (s₁.setTop (mkF m 0 #[.val (.ref ob)] [])) _
    refine XS.aloadN X0.here hx rfl (hb hby d10_0) rfl rfl ?_
    show Steps p.tables e below (s₁.setTop (mkF m 1 #[.val (.ref ob)] [(.ref ob)])) _
    refine st1 _ ?_
    show Steps p.tables e below (T1.setTop (mkF m 4 #[.val (.ref ob)] [(.int (1 : Int32))])) _
    refine XS.ifYes X1.here hx rfl (pc0 := 4) (pc' := 11) rfl (hb hby d10_4) rfl ((if0 _ _).trans (feq (by decide : ¬ ((1 : Int32) = (0 : Int32)))).2) (by decide) (by decide) ?_
    show Steps p.tables e below (T1.setTop (mkF m 11 #[.val (.ref ob)] [])) _
    refine XS.aloadN X1.here hx rfl (hb hby d10_11) rfl rfl ?_
    show Steps p.tables e below (T1.setTop (mkF m 12 #[.val (.ref ob)] [(.ref ob)])) _
    refine st2 _ ?_
    show Steps p.tables e below (T2.setTop (mkF m 15 #[.val (.ref ob)] [(.ref na)])) _
    refine XS.aloadN X2.here hx rfl (hb hby d10_15) rfl rfl ?_
    show Steps p.tables e below (T2.setTop (mkF m 16 #[.val (.ref ob)] [(.ref ob), (.ref na)])) _
    refine st3 _ ?_
    show Steps p.tables e below (T3.setTop (mkF m 19 #[.val (.ref ob)] [(.int (1 : Int32)), (.ref na)])) _
    refine XS.bipush X3.here hx rfl (hb hby d10_19) ?_
    show Steps p.tables e below (T3.setTop (mkF m 21 #[.val (.ref ob)] [(.int (90 : Int32)), (.int (1 : Int32)), (.ref na)])) _
    refine st4 _ ?_
    show Steps p.tables e below (T4.setTop (mkF m 24 #[.val (.ref ob)] [(.long x0)])) _
    refine XS.l2dS X4.here hx rfl (hb hby d10_24) rfl rfl ?_
    show Steps p.tables e below (T4.setTop (mkF m 25 #[.val (.ref ob)] [(.double (FP.l2d x0))])) _
    refine X4.ldc2DoubleC hx hown (mvT hZ (hw _ (List.mem_of_getElem? (i := 59) rfl))) (g := (mkF m 25 #[.val (.ref ob)] [(.double (FP.l2d x0))])) rfl (hb hby d10_25) _ ?_
    show Steps p.tables e below (T4.setTop (mkF m 28 #[.val (.ref ob)] [(.double 4696837146684686336), (.double (FP.l2d x0))])) _
    refine XS.ddivS X4.here hx rfl (hb hby d10_28) rfl (own_nn _) rfl ?_
    show Steps p.tables e below (T4.setTop (mkF m 29 #[.val (.ref ob)] [(.double (FP.ddiv (FP.l2d x0) 4696837146684686336))])) _
    exact retOut X4 hx Bd.returns rfl (Or.inr (Or.inr (Or.inl ⟨rfl, rfl, _, rfl⟩))) (hb hby d10_29) hr
  · show Q_rmP1 Z ob na ka x0 x1 x2 x3 h0 n0 _ T4.heap _
    exact ⟨rfl, N4, ((Keep.refl h0 []).trans Kp4 all0)⟩
def Q_rmP2 (Z : State) (ob : Addr) (na : Addr) (ka : ClassId) (x0 : Int64) (x1 : Int64) (x2 : Int64) (x3 : Int64) (h0 : Heap) (n0 : Nat) (v : Option Value) (h : Heap) (L : List Loc) : Prop := v = some (.double (FP.ddiv (FP.l2d (own_mx x0 x1)) 4696837146684686336)) ∧ Fr n0 L ∧ Keep h0 h []
theorem ef_rmP2 (m : MethodId) (ob : Addr) : entryFrame m #[(.ref ob)] 1 = mkF m 0 #[.val (.ref ob)] [] := by first | (simp [entryFrame, mkF, argsToLocals, Value.category]; done) | rfl
set_option maxRecDepth 65536 in
set_option maxHeartbeats 40000000 in
theorem rmP2 (l : Launch) (Z : State) (a0 : Array Value) (hw : ∀ d ∈ tables_1, d.before a0 Z = true) (ws : List Jvm.Cond) (ob : Addr) (na : Addr) (ka : ClassId) (x0 : Int64) (x1 : Int64) (x2 : Int64) (x3 : Int64) (h0 : Heap) (n0 : Nat) (Z0 : n0 ≤ h0.size) (E_ob : Exa Z h0 ob "com/example/tolc/tolc/RecentResponseTimes") (F_nanos_ob : Fld Z h0 ob "com/example/tolc/tolc/RecentResponseTimes" "nanos" "[J" (.ref na)) (F_size_ob : Fld Z h0 ob "com/example/tolc/tolc/RecentResponseTimes" "size" "I" (.int (2 : Int32))) (V_na : Arv Z h0 na ka .long (100 : Int32) [(.long x0), (.long x1), (.long x2), (.long x3)] (.long (0 : Int64))) :
    MetFree l (⟨"com/example/tolc/tolc/RecentResponseTimes", "p90Millis", "()D"⟩ : MethodName) (head1 (Jvm.Cond.code (⟨"com/example/tolc/tolc/RecentResponseTimes", "p90Millis", "()D"⟩ : MethodName) prog_15_method_3_code 1 (some .double) :: ws) ({ frames := 5, cells := 1, slots := 2, locals := 101 } : Room)) (fun a U => a = #[(.ref ob)] ∧ Z.Warmed39 U.vm ∧ U.heap = h0) (fun _ _ _ _ _ => True) (fun _ U o U' => ∃ v L, o = .returned v ∧ Q_rmP2 Z ob na ka x0 x1 x2 x3 h0 n0 v U'.heap L ∧ FrameEnd U o U' L ({ frames := 5, cells := 1, slots := 2, locals := 101 } : Room).cells ({ frames := 5, cells := 1, slots := 2, locals := 101 } : Room).slots) := by
  refine MetFree.of_bodySF (plainFor_of_name pn_0) hisR ?_
  intro p e s m args below meth c s₁ Bd hml0 hP hK
  obtain ⟨rfl, hZ, hh⟩ := hP
  have hx := Bd.exec
  have hby := Bd.bytes
  have hml : c.maxLocals = 1 := hml0
  have hown : s.vm.findClass "com/example/tolc/tolc/RecentResponseTimes" = some m.cls := findClass_of_methodNamed Bd.named
  have hnm := (name_of_methodNamed Bd.named Bd.method).1
  have X0 : Stand p l e ({ frames := 5, cells := 1, slots := 2, locals := 101 } : Room) s m #[(.ref ob)] below meth c s₁ [] 0 0 := Stand.of_body Bd
  have e0 : s₁.heap = h0 := by rw [← hh, Bd.state]; rfl
  have N0 := Fr.nil n0
  have pre0 : ∀ t, Steps p.tables e below (s₁.setTop (mkF m 0 #[.val (.ref ob)] [])) t → Steps p.tables e below (s₁.setTop (entryFrame m #[(.ref ob)] 1)) t := fun t k => castTop (ef_rmP2 m ob) k
  obtain ⟨T1, X1, e1, st1⟩ := getF X0 hx hZ hown (host := "") (Or.inl (hw _ (List.mem_of_getElem? (i := 20) rfl))) Via.refl e0 F_size_ob (g := (mkF m 1 #[.val (.ref ob)] [(.ref ob)])) rfl rfl (hb hby d10_1)
  obtain ⟨T2, X2, e2, st2⟩ := getF X1 hx hZ hown (host := "") (Or.inl (hw _ (List.mem_of_getElem? (i := 11) rfl))) Via.refl e1 F_nanos_ob (g := (mkF m 12 #[.val (.ref ob)] [(.ref ob)])) rfl rfl (hb hby d10_12)
  obtain ⟨T3, X3, e3, st3⟩ := getF X2 hx hZ hown (host := "") (Or.inl (hw _ (List.mem_of_getElem? (i := 20) rfl))) Via.refl e2 F_size_ob (g := (mkF m 16 #[.val (.ref ob)] [(.ref ob), (.ref na)])) rfl rfl (hb hby d10_16)
  obtain ⟨_, _, ⟨T4, L4, k4, n4⟩, -, X4, ⟨Lc4, hQ4, l4, y4, z4⟩, st4⟩ := Jvm.LawKit.callS X3 hx (y := (⟨"com/example/tolc/tolc/Percentiles", "nearestRank", "([JII)J"⟩ : MethodName)) hown (mvT hZ (hw _ (List.mem_of_getElem? (i := 31) rfl))) (mvT hZ (hw _ (List.mem_of_getElem? (i := 32) rfl))) (mvT hZ (hw _ (List.mem_of_getElem? (i := 33) rfl))) (mvT hZ (hw _ (List.mem_of_getElem? (i := 34) rfl))) (by decide) (backOf (W := 0) (rmN2 l Z a0 hw [] na ka x0 x1 x2 x3 h0 n0 Z0 V_na) hZ (hw _ (List.mem_of_getElem? (i := 34) rfl)) (hw _ (List.mem_of_getElem? (i := 33) rfl)) (by decide) (by decide)) (g := (mkF m 21 #[.val (.ref ob)] [(.int (90 : Int32)), (.int (2 : Int32)), (.ref na)])) rfl (by rw [hml]; rfl) (argsL := [(.ref na), (.int (2 : Int32)), (.int (90 : Int32))]) (rest := []) (lenOf pd_6 rfl) rfl (by show 2 * 0 + _ ≤ _; exact Nat.le_of_eq rfl) (hb hby d10_21) (fun _ _ => ⟨rfl, e3, (by decide : 0 + 1 ≤ _), (by decide : 0 + 2 ≤ _)⟩)
  dsimp only [Pt.U, Pt.locs, Pt.cells, Pt.slots] at X4 l4 y4 z4 st4 hQ4
  subst l4 y4 z4
  obtain ⟨rfl, Nq4, Kp4, Fq4_0⟩ := hQ4
  have N4 := Fr.app N0 Nq4
  obtain ⟨fs, hr, hrun, hended, hW, hsame⟩ := X4.leave (v := some (.double (FP.ddiv (FP.l2d (own_mx x0 x1)) 4696837146684686336))) (fun h => by rw [Bd.returns] at h; cases h)
  refine ⟨_, _, pre0 _ ?_, hrun, hended, _, _, rfl, ?_, ⟨_, rfl⟩, hW, hsame.mono (by decide) (by decide)⟩
  · show Steps p.tables e below (s₁.setTop (mkF m 0 #[.val (.ref ob)] [])) _
    refine XS.aloadN X0.here hx rfl (hb hby d10_0) rfl rfl ?_
    show Steps p.tables e below (s₁.setTop (mkF m 1 #[.val (.ref ob)] [(.ref ob)])) _
    refine st1 _ ?_
    show Steps p.tables e below (T1.setTop (mkF m 4 #[.val (.ref ob)] [(.int (2 : Int32))])) _
    refine XS.ifYes X1.here hx rfl (pc0 := 4) (pc' := 11) rfl (hb hby d10_4) rfl ((if0 _ _).trans (feq (by decide : ¬ ((2 : Int32) = (0 : Int32)))).2) (by decide) (by decide) ?_
    show Steps p.tables e below (T1.setTop (mkF m 11 #[.val (.ref ob)] [])) _
    refine XS.aloadN X1.here hx rfl (hb hby d10_11) rfl rfl ?_
    show Steps p.tables e below (T1.setTop (mkF m 12 #[.val (.ref ob)] [(.ref ob)])) _
    refine st2 _ ?_
    show Steps p.tables e below (T2.setTop (mkF m 15 #[.val (.ref ob)] [(.ref na)])) _
    refine XS.aloadN X2.here hx rfl (hb hby d10_15) rfl rfl ?_
    show Steps p.tables e below (T2.setTop (mkF m 16 #[.val (.ref ob)] [(.ref ob), (.ref na)])) _
    refine st3 _ ?_
    show Steps p.tables e below (T3.setTop (mkF m 19 #[.val (.ref ob)] [(.int (2 : Int32)), (.ref na)])) _
    refine XS.bipush X3.here hx rfl (hb hby d10_19) ?_
    show Steps p.tables e below (T3.setTop (mkF m 21 #[.val (.ref ob)] [(.int (90 : Int32)), (.int (2 : Int32)), (.ref na)])) _
    refine st4 _ ?_
    show Steps p.tables e below (T4.setTop (mkF m 24 #[.val (.ref ob)] [(.long (own_mx x0 x1))])) _
    refine XS.l2dS X4.here hx rfl (hb hby d10_24) rfl rfl ?_
    show Steps p.tables e below (T4.setTop (mkF m 25 #[.val (.ref ob)] [(.double (FP.l2d (own_mx x0 x1)))])) _
    refine X4.ldc2DoubleC hx hown (mvT hZ (hw _ (List.mem_of_getElem? (i := 59) rfl))) (g := (mkF m 25 #[.val (.ref ob)] [(.double (FP.l2d (own_mx x0 x1)))])) rfl (hb hby d10_25) _ ?_
    show Steps p.tables e below (T4.setTop (mkF m 28 #[.val (.ref ob)] [(.double 4696837146684686336), (.double (FP.l2d (own_mx x0 x1)))])) _
    refine XS.ddivS X4.here hx rfl (hb hby d10_28) rfl (own_nn _) rfl ?_
    show Steps p.tables e below (T4.setTop (mkF m 29 #[.val (.ref ob)] [(.double (FP.ddiv (FP.l2d (own_mx x0 x1)) 4696837146684686336))])) _
    exact retOut X4 hx Bd.returns rfl (Or.inr (Or.inr (Or.inl ⟨rfl, rfl, _, rfl⟩))) (hb hby d10_29) hr
  · show Q_rmP2 Z ob na ka x0 x1 x2 x3 h0 n0 _ T4.heap _
    exact ⟨rfl, N4, ((Keep.refl h0 []).trans Kp4 all0)⟩
def Q_rmP3 (Z : State) (ob : Addr) (na : Addr) (ka : ClassId) (x0 : Int64) (x1 : Int64) (x2 : Int64) (x3 : Int64) (h0 : Heap) (n0 : Nat) (v : Option Value) (h : Heap) (L : List Loc) : Prop := v = some (.double (FP.ddiv (FP.l2d (own_mx (own_mx x0 x1) x2)) 4696837146684686336)) ∧ Fr n0 L ∧ Keep h0 h []
theorem ef_rmP3 (m : MethodId) (ob : Addr) : entryFrame m #[(.ref ob)] 1 = mkF m 0 #[.val (.ref ob)] [] := by first | (simp [entryFrame, mkF, argsToLocals, Value.category]; done) | rfl
set_option maxRecDepth 65536 in
set_option maxHeartbeats 40000000 in
theorem rmP3 (l : Launch) (Z : State) (a0 : Array Value) (hw : ∀ d ∈ tables_1, d.before a0 Z = true) (ws : List Jvm.Cond) (ob : Addr) (na : Addr) (ka : ClassId) (x0 : Int64) (x1 : Int64) (x2 : Int64) (x3 : Int64) (h0 : Heap) (n0 : Nat) (Z0 : n0 ≤ h0.size) (E_ob : Exa Z h0 ob "com/example/tolc/tolc/RecentResponseTimes") (F_nanos_ob : Fld Z h0 ob "com/example/tolc/tolc/RecentResponseTimes" "nanos" "[J" (.ref na)) (F_size_ob : Fld Z h0 ob "com/example/tolc/tolc/RecentResponseTimes" "size" "I" (.int (3 : Int32))) (V_na : Arv Z h0 na ka .long (100 : Int32) [(.long x0), (.long x1), (.long x2), (.long x3)] (.long (0 : Int64))) :
    MetFree l (⟨"com/example/tolc/tolc/RecentResponseTimes", "p90Millis", "()D"⟩ : MethodName) (head1 (Jvm.Cond.code (⟨"com/example/tolc/tolc/RecentResponseTimes", "p90Millis", "()D"⟩ : MethodName) prog_15_method_3_code 1 (some .double) :: ws) ({ frames := 5, cells := 1, slots := 3, locals := 101 } : Room)) (fun a U => a = #[(.ref ob)] ∧ Z.Warmed39 U.vm ∧ U.heap = h0) (fun _ _ _ _ _ => True) (fun _ U o U' => ∃ v L, o = .returned v ∧ Q_rmP3 Z ob na ka x0 x1 x2 x3 h0 n0 v U'.heap L ∧ FrameEnd U o U' L ({ frames := 5, cells := 1, slots := 3, locals := 101 } : Room).cells ({ frames := 5, cells := 1, slots := 3, locals := 101 } : Room).slots) := by
  refine MetFree.of_bodySF (plainFor_of_name pn_0) hisR ?_
  intro p e s m args below meth c s₁ Bd hml0 hP hK
  obtain ⟨rfl, hZ, hh⟩ := hP
  have hx := Bd.exec
  have hby := Bd.bytes
  have hml : c.maxLocals = 1 := hml0
  have hown : s.vm.findClass "com/example/tolc/tolc/RecentResponseTimes" = some m.cls := findClass_of_methodNamed Bd.named
  have hnm := (name_of_methodNamed Bd.named Bd.method).1
  have X0 : Stand p l e ({ frames := 5, cells := 1, slots := 3, locals := 101 } : Room) s m #[(.ref ob)] below meth c s₁ [] 0 0 := Stand.of_body Bd
  have e0 : s₁.heap = h0 := by rw [← hh, Bd.state]; rfl
  have N0 := Fr.nil n0
  have pre0 : ∀ t, Steps p.tables e below (s₁.setTop (mkF m 0 #[.val (.ref ob)] [])) t → Steps p.tables e below (s₁.setTop (entryFrame m #[(.ref ob)] 1)) t := fun t k => castTop (ef_rmP3 m ob) k
  obtain ⟨T1, X1, e1, st1⟩ := getF X0 hx hZ hown (host := "") (Or.inl (hw _ (List.mem_of_getElem? (i := 20) rfl))) Via.refl e0 F_size_ob (g := (mkF m 1 #[.val (.ref ob)] [(.ref ob)])) rfl rfl (hb hby d10_1)
  obtain ⟨T2, X2, e2, st2⟩ := getF X1 hx hZ hown (host := "") (Or.inl (hw _ (List.mem_of_getElem? (i := 11) rfl))) Via.refl e1 F_nanos_ob (g := (mkF m 12 #[.val (.ref ob)] [(.ref ob)])) rfl rfl (hb hby d10_12)
  obtain ⟨T3, X3, e3, st3⟩ := getF X2 hx hZ hown (host := "") (Or.inl (hw _ (List.mem_of_getElem? (i := 20) rfl))) Via.refl e2 F_size_ob (g := (mkF m 16 #[.val (.ref ob)] [(.ref ob), (.ref na)])) rfl rfl (hb hby d10_16)
  obtain ⟨_, _, ⟨T4, L4, k4, n4⟩, -, X4, ⟨Lc4, hQ4, l4, y4, z4⟩, st4⟩ := Jvm.LawKit.callS X3 hx (y := (⟨"com/example/tolc/tolc/Percentiles", "nearestRank", "([JII)J"⟩ : MethodName)) hown (mvT hZ (hw _ (List.mem_of_getElem? (i := 31) rfl))) (mvT hZ (hw _ (List.mem_of_getElem? (i := 32) rfl))) (mvT hZ (hw _ (List.mem_of_getElem? (i := 33) rfl))) (mvT hZ (hw _ (List.mem_of_getElem? (i := 34) rfl))) (by decide) (backOf (W := 0) (rmN3 l Z a0 hw [] na ka x0 x1 x2 x3 h0 n0 Z0 V_na) hZ (hw _ (List.mem_of_getElem? (i := 34) rfl)) (hw _ (List.mem_of_getElem? (i := 33) rfl)) (by decide) (by decide)) (g := (mkF m 21 #[.val (.ref ob)] [(.int (90 : Int32)), (.int (3 : Int32)), (.ref na)])) rfl (by rw [hml]; rfl) (argsL := [(.ref na), (.int (3 : Int32)), (.int (90 : Int32))]) (rest := []) (lenOf pd_6 rfl) rfl (by show 2 * 0 + _ ≤ _; exact Nat.le_of_eq rfl) (hb hby d10_21) (fun _ _ => ⟨rfl, e3, (by decide : 0 + 1 ≤ _), (by decide : 0 + 3 ≤ _)⟩)
  dsimp only [Pt.U, Pt.locs, Pt.cells, Pt.slots] at X4 l4 y4 z4 st4 hQ4
  subst l4 y4 z4
  obtain ⟨rfl, Nq4, Kp4, Fq4_0⟩ := hQ4
  have N4 := Fr.app N0 Nq4
  obtain ⟨fs, hr, hrun, hended, hW, hsame⟩ := X4.leave (v := some (.double (FP.ddiv (FP.l2d (own_mx (own_mx x0 x1) x2)) 4696837146684686336))) (fun h => by rw [Bd.returns] at h; cases h)
  refine ⟨_, _, pre0 _ ?_, hrun, hended, _, _, rfl, ?_, ⟨_, rfl⟩, hW, hsame.mono (by decide) (by decide)⟩
  · show Steps p.tables e below (s₁.setTop (mkF m 0 #[.val (.ref ob)] [])) _
    refine XS.aloadN X0.here hx rfl (hb hby d10_0) rfl rfl ?_
    show Steps p.tables e below (s₁.setTop (mkF m 1 #[.val (.ref ob)] [(.ref ob)])) _
    refine st1 _ ?_
    show Steps p.tables e below (T1.setTop (mkF m 4 #[.val (.ref ob)] [(.int (3 : Int32))])) _
    refine XS.ifYes X1.here hx rfl (pc0 := 4) (pc' := 11) rfl (hb hby d10_4) rfl ((if0 _ _).trans (feq (by decide : ¬ ((3 : Int32) = (0 : Int32)))).2) (by decide) (by decide) ?_
    show Steps p.tables e below (T1.setTop (mkF m 11 #[.val (.ref ob)] [])) _
    refine XS.aloadN X1.here hx rfl (hb hby d10_11) rfl rfl ?_
    show Steps p.tables e below (T1.setTop (mkF m 12 #[.val (.ref ob)] [(.ref ob)])) _
    refine st2 _ ?_
    show Steps p.tables e below (T2.setTop (mkF m 15 #[.val (.ref ob)] [(.ref na)])) _
    refine XS.aloadN X2.here hx rfl (hb hby d10_15) rfl rfl ?_
    show Steps p.tables e below (T2.setTop (mkF m 16 #[.val (.ref ob)] [(.ref ob), (.ref na)])) _
    refine st3 _ ?_
    show Steps p.tables e below (T3.setTop (mkF m 19 #[.val (.ref ob)] [(.int (3 : Int32)), (.ref na)])) _
    refine XS.bipush X3.here hx rfl (hb hby d10_19) ?_
    show Steps p.tables e below (T3.setTop (mkF m 21 #[.val (.ref ob)] [(.int (90 : Int32)), (.int (3 : Int32)), (.ref na)])) _
    refine st4 _ ?_
    show Steps p.tables e below (T4.setTop (mkF m 24 #[.val (.ref ob)] [(.long (own_mx (own_mx x0 x1) x2))])) _
    refine XS.l2dS X4.here hx rfl (hb hby d10_24) rfl rfl ?_
    show Steps p.tables e below (T4.setTop (mkF m 25 #[.val (.ref ob)] [(.double (FP.l2d (own_mx (own_mx x0 x1) x2)))])) _
    refine X4.ldc2DoubleC hx hown (mvT hZ (hw _ (List.mem_of_getElem? (i := 59) rfl))) (g := (mkF m 25 #[.val (.ref ob)] [(.double (FP.l2d (own_mx (own_mx x0 x1) x2)))])) rfl (hb hby d10_25) _ ?_
    show Steps p.tables e below (T4.setTop (mkF m 28 #[.val (.ref ob)] [(.double 4696837146684686336), (.double (FP.l2d (own_mx (own_mx x0 x1) x2)))])) _
    refine XS.ddivS X4.here hx rfl (hb hby d10_28) rfl (own_nn _) rfl ?_
    show Steps p.tables e below (T4.setTop (mkF m 29 #[.val (.ref ob)] [(.double (FP.ddiv (FP.l2d (own_mx (own_mx x0 x1) x2)) 4696837146684686336))])) _
    exact retOut X4 hx Bd.returns rfl (Or.inr (Or.inr (Or.inl ⟨rfl, rfl, _, rfl⟩))) (hb hby d10_29) hr
  · show Q_rmP3 Z ob na ka x0 x1 x2 x3 h0 n0 _ T4.heap _
    exact ⟨rfl, N4, ((Keep.refl h0 []).trans Kp4 all0)⟩
def Q_rmP4 (Z : State) (ob : Addr) (na : Addr) (ka : ClassId) (x0 : Int64) (x1 : Int64) (x2 : Int64) (x3 : Int64) (h0 : Heap) (n0 : Nat) (v : Option Value) (h : Heap) (L : List Loc) : Prop := v = some (.double (FP.ddiv (FP.l2d (own_mx (own_mx (own_mx x0 x1) x2) x3)) 4696837146684686336)) ∧ Fr n0 L ∧ Keep h0 h []
theorem ef_rmP4 (m : MethodId) (ob : Addr) : entryFrame m #[(.ref ob)] 1 = mkF m 0 #[.val (.ref ob)] [] := by first | (simp [entryFrame, mkF, argsToLocals, Value.category]; done) | rfl
set_option maxRecDepth 65536 in
set_option maxHeartbeats 40000000 in
theorem rmP4 (l : Launch) (Z : State) (a0 : Array Value) (hw : ∀ d ∈ tables_1, d.before a0 Z = true) (ws : List Jvm.Cond) (ob : Addr) (na : Addr) (ka : ClassId) (x0 : Int64) (x1 : Int64) (x2 : Int64) (x3 : Int64) (h0 : Heap) (n0 : Nat) (Z0 : n0 ≤ h0.size) (E_ob : Exa Z h0 ob "com/example/tolc/tolc/RecentResponseTimes") (F_nanos_ob : Fld Z h0 ob "com/example/tolc/tolc/RecentResponseTimes" "nanos" "[J" (.ref na)) (F_size_ob : Fld Z h0 ob "com/example/tolc/tolc/RecentResponseTimes" "size" "I" (.int (4 : Int32))) (V_na : Arv Z h0 na ka .long (100 : Int32) [(.long x0), (.long x1), (.long x2), (.long x3)] (.long (0 : Int64))) :
    MetFree l (⟨"com/example/tolc/tolc/RecentResponseTimes", "p90Millis", "()D"⟩ : MethodName) (head1 (Jvm.Cond.code (⟨"com/example/tolc/tolc/RecentResponseTimes", "p90Millis", "()D"⟩ : MethodName) prog_15_method_3_code 1 (some .double) :: ws) ({ frames := 5, cells := 1, slots := 4, locals := 101 } : Room)) (fun a U => a = #[(.ref ob)] ∧ Z.Warmed39 U.vm ∧ U.heap = h0) (fun _ _ _ _ _ => True) (fun _ U o U' => ∃ v L, o = .returned v ∧ Q_rmP4 Z ob na ka x0 x1 x2 x3 h0 n0 v U'.heap L ∧ FrameEnd U o U' L ({ frames := 5, cells := 1, slots := 4, locals := 101 } : Room).cells ({ frames := 5, cells := 1, slots := 4, locals := 101 } : Room).slots) := by
  refine MetFree.of_bodySF (plainFor_of_name pn_0) hisR ?_
  intro p e s m args below meth c s₁ Bd hml0 hP hK
  obtain ⟨rfl, hZ, hh⟩ := hP
  have hx := Bd.exec
  have hby := Bd.bytes
  have hml : c.maxLocals = 1 := hml0
  have hown : s.vm.findClass "com/example/tolc/tolc/RecentResponseTimes" = some m.cls := findClass_of_methodNamed Bd.named
  have hnm := (name_of_methodNamed Bd.named Bd.method).1
  have X0 : Stand p l e ({ frames := 5, cells := 1, slots := 4, locals := 101 } : Room) s m #[(.ref ob)] below meth c s₁ [] 0 0 := Stand.of_body Bd
  have e0 : s₁.heap = h0 := by rw [← hh, Bd.state]; rfl
  have N0 := Fr.nil n0
  have pre0 : ∀ t, Steps p.tables e below (s₁.setTop (mkF m 0 #[.val (.ref ob)] [])) t → Steps p.tables e below (s₁.setTop (entryFrame m #[(.ref ob)] 1)) t := fun t k => castTop (ef_rmP4 m ob) k
  obtain ⟨T1, X1, e1, st1⟩ := getF X0 hx hZ hown (host := "") (Or.inl (hw _ (List.mem_of_getElem? (i := 20) rfl))) Via.refl e0 F_size_ob (g := (mkF m 1 #[.val (.ref ob)] [(.ref ob)])) rfl rfl (hb hby d10_1)
  obtain ⟨T2, X2, e2, st2⟩ := getF X1 hx hZ hown (host := "") (Or.inl (hw _ (List.mem_of_getElem? (i := 11) rfl))) Via.refl e1 F_nanos_ob (g := (mkF m 12 #[.val (.ref ob)] [(.ref ob)])) rfl rfl (hb hby d10_12)
  obtain ⟨T3, X3, e3, st3⟩ := getF X2 hx hZ hown (host := "") (Or.inl (hw _ (List.mem_of_getElem? (i := 20) rfl))) Via.refl e2 F_size_ob (g := (mkF m 16 #[.val (.ref ob)] [(.ref ob), (.ref na)])) rfl rfl (hb hby d10_16)
  obtain ⟨_, _, ⟨T4, L4, k4, n4⟩, -, X4, ⟨Lc4, hQ4, l4, y4, z4⟩, st4⟩ := Jvm.LawKit.callS X3 hx (y := (⟨"com/example/tolc/tolc/Percentiles", "nearestRank", "([JII)J"⟩ : MethodName)) hown (mvT hZ (hw _ (List.mem_of_getElem? (i := 31) rfl))) (mvT hZ (hw _ (List.mem_of_getElem? (i := 32) rfl))) (mvT hZ (hw _ (List.mem_of_getElem? (i := 33) rfl))) (mvT hZ (hw _ (List.mem_of_getElem? (i := 34) rfl))) (by decide) (backOf (W := 0) (rmN4 l Z a0 hw [] na ka x0 x1 x2 x3 h0 n0 Z0 V_na) hZ (hw _ (List.mem_of_getElem? (i := 34) rfl)) (hw _ (List.mem_of_getElem? (i := 33) rfl)) (by decide) (by decide)) (g := (mkF m 21 #[.val (.ref ob)] [(.int (90 : Int32)), (.int (4 : Int32)), (.ref na)])) rfl (by rw [hml]; rfl) (argsL := [(.ref na), (.int (4 : Int32)), (.int (90 : Int32))]) (rest := []) (lenOf pd_6 rfl) rfl (by show 2 * 0 + _ ≤ _; exact Nat.le_of_eq rfl) (hb hby d10_21) (fun _ _ => ⟨rfl, e3, (by decide : 0 + 1 ≤ _), (by decide : 0 + 4 ≤ _)⟩)
  dsimp only [Pt.U, Pt.locs, Pt.cells, Pt.slots] at X4 l4 y4 z4 st4 hQ4
  subst l4 y4 z4
  obtain ⟨rfl, Nq4, Kp4, Fq4_0⟩ := hQ4
  have N4 := Fr.app N0 Nq4
  obtain ⟨fs, hr, hrun, hended, hW, hsame⟩ := X4.leave (v := some (.double (FP.ddiv (FP.l2d (own_mx (own_mx (own_mx x0 x1) x2) x3)) 4696837146684686336))) (fun h => by rw [Bd.returns] at h; cases h)
  refine ⟨_, _, pre0 _ ?_, hrun, hended, _, _, rfl, ?_, ⟨_, rfl⟩, hW, hsame.mono (by decide) (by decide)⟩
  · show Steps p.tables e below (s₁.setTop (mkF m 0 #[.val (.ref ob)] [])) _
    refine XS.aloadN X0.here hx rfl (hb hby d10_0) rfl rfl ?_
    show Steps p.tables e below (s₁.setTop (mkF m 1 #[.val (.ref ob)] [(.ref ob)])) _
    refine st1 _ ?_
    show Steps p.tables e below (T1.setTop (mkF m 4 #[.val (.ref ob)] [(.int (4 : Int32))])) _
    refine XS.ifYes X1.here hx rfl (pc0 := 4) (pc' := 11) rfl (hb hby d10_4) rfl ((if0 _ _).trans (feq (by decide : ¬ ((4 : Int32) = (0 : Int32)))).2) (by decide) (by decide) ?_
    show Steps p.tables e below (T1.setTop (mkF m 11 #[.val (.ref ob)] [])) _
    refine XS.aloadN X1.here hx rfl (hb hby d10_11) rfl rfl ?_
    show Steps p.tables e below (T1.setTop (mkF m 12 #[.val (.ref ob)] [(.ref ob)])) _
    refine st2 _ ?_
    show Steps p.tables e below (T2.setTop (mkF m 15 #[.val (.ref ob)] [(.ref na)])) _
    refine XS.aloadN X2.here hx rfl (hb hby d10_15) rfl rfl ?_
    show Steps p.tables e below (T2.setTop (mkF m 16 #[.val (.ref ob)] [(.ref ob), (.ref na)])) _
    refine st3 _ ?_
    show Steps p.tables e below (T3.setTop (mkF m 19 #[.val (.ref ob)] [(.int (4 : Int32)), (.ref na)])) _
    refine XS.bipush X3.here hx rfl (hb hby d10_19) ?_
    show Steps p.tables e below (T3.setTop (mkF m 21 #[.val (.ref ob)] [(.int (90 : Int32)), (.int (4 : Int32)), (.ref na)])) _
    refine st4 _ ?_
    show Steps p.tables e below (T4.setTop (mkF m 24 #[.val (.ref ob)] [(.long (own_mx (own_mx (own_mx x0 x1) x2) x3))])) _
    refine XS.l2dS X4.here hx rfl (hb hby d10_24) rfl rfl ?_
    show Steps p.tables e below (T4.setTop (mkF m 25 #[.val (.ref ob)] [(.double (FP.l2d (own_mx (own_mx (own_mx x0 x1) x2) x3)))])) _
    refine X4.ldc2DoubleC hx hown (mvT hZ (hw _ (List.mem_of_getElem? (i := 59) rfl))) (g := (mkF m 25 #[.val (.ref ob)] [(.double (FP.l2d (own_mx (own_mx (own_mx x0 x1) x2) x3)))])) rfl (hb hby d10_25) _ ?_
    show Steps p.tables e below (T4.setTop (mkF m 28 #[.val (.ref ob)] [(.double 4696837146684686336), (.double (FP.l2d (own_mx (own_mx (own_mx x0 x1) x2) x3)))])) _
    refine XS.ddivS X4.here hx rfl (hb hby d10_28) rfl (own_nn _) rfl ?_
    show Steps p.tables e below (T4.setTop (mkF m 29 #[.val (.ref ob)] [(.double (FP.ddiv (FP.l2d (own_mx (own_mx (own_mx x0 x1) x2) x3)) 4696837146684686336))])) _
    exact retOut X4 hx Bd.returns rfl (Or.inr (Or.inr (Or.inl ⟨rfl, rfl, _, rfl⟩))) (hb hby d10_29) hr
  · show Q_rmP4 Z ob na ka x0 x1 x2 x3 h0 n0 _ T4.heap _
    exact ⟨rfl, N4, ((Keep.refl h0 []).trans Kp4 all0)⟩
theorem pd_7 : parseMethodDescriptor "()V" = some ⟨[], none⟩ := by decide +kernel
theorem pd_8 : parseMethodDescriptor "()D" = some ⟨[], some .double⟩ := by decide +kernel
theorem pn_4 : plainName "com/example/tolc/tolc/RecentResponseTimesAddPinLaw" = true := by first | (simp [plainName, overriddenIn]; done) | decide +kernel
def Q_rm0_0 (Z : State) (q0 : Int64) (q1 : Int64) (q2 : Int64) (q3 : Int64) (p4 : Int32) (h0 : Heap) (n0 : Nat) (v : Option Value) (h : Heap) (L : List Loc) : Prop := v = some (.int (1 : Int32)) ∧ Fr n0 L
theorem ef_rm0_0 (m : MethodId) (q0 : Int64) (q1 : Int64) (q2 : Int64) (q3 : Int64) (p4 : Int32) : entryFrame m #[(.long q0), (.long q1), (.long q2), (.long q3), (.int p4)] maxLocals = mkF m 0 #[.val (.long q0), .second, .val (.long q1), .second, .val (.long q2), .second, .val (.long q3), .second, .val (.int p4), .unset, .unset, .unset, .unset, .unset, .unset] [] := by first | (simp [entryFrame, mkF, argsToLocals, Value.category, maxLocals]; done) | rfl
set_option maxRecDepth 65536 in
set_option maxHeartbeats 40000000 in
theorem rm0_0 (l : Launch) (Z : State) (a0 : Array Value) (hw : ∀ d ∈ tables_1, d.before a0 Z = true) (ws : List Jvm.Cond) (q0 : Int64) (q1 : Int64) (q2 : Int64) (q3 : Int64) (p4 : Int32) (h0 : Heap) (n0 : Nat) (Z0 : n0 ≤ h0.size) (hn : ((p4 &&& (2147483647 : Int32)) % (5 : Int32)) = (0 : Int32)) :
    MetFree l x (head1 (Jvm.Cond.code x code maxLocals ret :: ws) room_1) (fun a U => a = #[(.long q0), (.long q1), (.long q2), (.long q3), (.int p4)] ∧ Z.Warmed39 U.vm ∧ U.heap = h0) (fun _ _ _ _ _ => True) (fun _ U o U' => ∃ v L, o = .returned v ∧ Q_rm0_0 Z q0 q1 q2 q3 p4 h0 n0 v U'.heap L ∧ FrameEnd U o U' L room_1.cells room_1.slots) := by
  refine MetFree.of_bodySF (plainFor_of_name pn_4) hisR ?_
  intro p e s m args below meth c s₁ Bd hml0 hP hK
  obtain ⟨rfl, hZ, hh⟩ := hP
  have hx := Bd.exec
  have hby := Bd.bytes
  have hml : c.maxLocals = 15 := hml0
  have hown : s.vm.findClass "com/example/tolc/tolc/RecentResponseTimesAddPinLaw" = some m.cls := findClass_of_methodNamed Bd.named
  have hnm := (name_of_methodNamed Bd.named Bd.method).1
  have X0 : Stand p l e room_1 s m #[(.long q0), (.long q1), (.long q2), (.long q3), (.int p4)] below meth c s₁ [] 0 0 := Stand.of_body Bd
  have e0 : s₁.heap = h0 := by rw [← hh, Bd.state]; rfl
  have N0 := Fr.nil n0
  have pre0 : ∀ t, Steps p.tables e below (s₁.setTop (mkF m 0 #[.val (.long q0), .second, .val (.long q1), .second, .val (.long q2), .second, .val (.long q3), .second, .val (.int p4), .unset, .unset, .unset, .unset, .unset, .unset] [])) t → Steps p.tables e below (s₁.setTop (entryFrame m #[(.long q0), (.long q1), (.long q2), (.long q3), (.int p4)] maxLocals)) t := fun t k => castTop (ef_rm0_0 m q0 q1 q2 q3 p4) k
  obtain ⟨T1, h1, X1, e1, E1, A1, D1, -, st1⟩ := newO X0 hx hZ hown (hw _ (List.mem_of_getElem? (i := 1) rfl)) (hw _ (List.mem_of_getElem? (i := 2) rfl)) (hw _ (List.mem_of_getElem? (i := 3) rfl)) e0 (g := (mkF m 9 #[.val (.long q0), .second, .val (.long q1), .second, .val (.long q2), .second, .val (.long q3), .second, .val (.int p4), .val (.int (0 : Int32)), .unset, .unset, .unset, .unset, .unset] [])) rfl (hb hby at_9) (by decide) (by decide)
  obtain ⟨b1, g1⟩ : ∃ z, z = h0.size := ⟨_, rfl⟩
  rw [← g1] at A1 D1 st1
  have F1_1 : Fld Z h1 b1 "com/example/tolc/tolc/RecentResponseTimes" "nanos" "[J" .null := D1 (Or.inr (hw _ (List.mem_of_getElem? (i := 12) rfl))) (ty := (.array .long)) (by decide)
  have F1_2 : Fld Z h1 b1 "com/example/tolc/tolc/RecentResponseTimes" "next" "I" (.int (0 : Int32)) := D1 (Or.inl (hw _ (List.mem_of_getElem? (i := 19) rfl))) (ty := .int) (by decide)
  have F1_3 : Fld Z h1 b1 "com/example/tolc/tolc/RecentResponseTimes" "size" "I" (.int (0 : Int32)) := D1 (Or.inl (hw _ (List.mem_of_getElem? (i := 21) rfl))) (ty := .int) (by decide)
  obtain ⟨_, _, ⟨T2, L2, k2, n2⟩, -, X2, ⟨Lc2, hQ2, l2, y2, z2⟩, st2⟩ := X1.specialBack hx (y := (⟨"com/example/tolc/tolc/RecentResponseTimes", "<init>", "()V"⟩ : MethodName)) rfl hown (mvT hZ (hw _ (List.mem_of_getElem? (i := 4) rfl))) (mvT hZ (hw _ (List.mem_of_getElem? (i := 5) rfl))) (mvT hZ (hw _ (List.mem_of_getElem? (i := 6) rfl))) (by decide) (backOf (W := 1) (rmI l Z a0 hw [] b1 .null h1 n0 (Nat.le_trans Z0 E1.1) F1_2 F1_3 F1_1 A1 (Nat.le_trans Z0 (Nat.le_of_eq g1.symm))) hZ (hw _ (List.mem_of_getElem? (i := 6) rfl)) (hw _ (List.mem_of_getElem? (i := 3) rfl)) (by decide) (by decide)) (g := (mkF m 13 #[.val (.long q0), .second, .val (.long q1), .second, .val (.long q2), .second, .val (.long q3), .second, .val (.int p4), .val (.int (0 : Int32)), .unset, .unset, .unset, .unset, .unset] [(.ref b1), (.ref b1)])) rfl (by rw [hml]; rfl) (Steps.refl _) (a := b1) (argsL := []) (rest := [(.ref b1)]) (lenOf pd_7 rfl) rfl (by show 2 * 0 + _ ≤ _; exact Nat.le_of_eq rfl) (hb hby at_13) (fun _ _ => ⟨rfl, e1, (by decide : 1 + 1 ≤ _), (by decide : 3 + 100 ≤ _)⟩)
  dsimp only [Pt.U, Pt.locs, Pt.cells, Pt.slots] at X2 l2 y2 z2 st2 hQ2
  subst l2 y2 z2
  obtain ⟨na_2, ka_2, rfl, Nq2, gb2_0, Kp2, Fq2_0, Fq2_1, Fq2_2, Fq2_3, Fq2_4⟩ := hQ2
  have N2 := Fr.app N0 Nq2
  obtain ⟨cq3, kq3, q3a, q3b, q3c⟩ := isOf hZ rfl Fq2_0
  obtain ⟨_, _, ⟨T3, L3, k3, n3⟩, -, X3, ⟨Lc3, hQ3, l3, y3, z3⟩, st3⟩ := X2.virtualBack hx (y := (⟨"com/example/tolc/tolc/RecentResponseTimes", "p90Millis", "()D"⟩ : MethodName)) (z := (⟨"com/example/tolc/tolc/RecentResponseTimes", "p90Millis", "()D"⟩ : MethodName)) hown (mvT hZ (hw _ (List.mem_of_getElem? (i := 26) rfl))) (mvT hZ (hw _ (List.mem_of_getElem? (i := 27) rfl))) (notFace_of_selects (args := #[]) (mvT hZ (hw _ (List.mem_of_getElem? (i := 29) rfl)))) (mvT hZ (hw _ (List.mem_of_getElem? (i := 29) rfl))) (mvT hZ (hw _ (List.mem_of_getElem? (i := 28) rfl))) (by decide) (backOf (W := 0) (rmP0 l Z a0 hw [] b1 na_2 ka_2 (0 : Int64) (0 : Int64) (0 : Int64) (0 : Int64) T2.heap n0 (Nat.le_trans (Nat.le_trans Z0 E1.1) Kp2.1) Fq2_0 Fq2_1 Fq2_3 Fq2_4) hZ (hw _ (List.mem_of_getElem? (i := 30) rfl)) (hw _ (List.mem_of_getElem? (i := 3) rfl)) (by decide) (by decide)) q3a q3c (g := (mkF m 70 #[.val (.long q0), .second, .val (.long q1), .second, .val (.long q2), .second, .val (.long q3), .second, .val (.int p4), .val (.int (0 : Int32)), .val (.ref b1), .unset, .unset, .unset, .unset] [(.ref b1)])) rfl (by rw [hml]; rfl) (Steps.refl _) (argsL := []) (rest := []) (lenOf pd_8 rfl) rfl (by show 2 * 0 + _ ≤ _; exact Nat.le_of_eq rfl) (hb hby at_70) (fun _ _ => ⟨rfl, rfl, (by decide : 2 + 0 ≤ _), (by decide : 103 + 0 ≤ _)⟩)
  dsimp only [Pt.U, Pt.locs, Pt.cells, Pt.slots] at X3 l3 y3 z3 st3 hQ3
  subst l3 y3 z3
  obtain ⟨rfl, Nq3, e3⟩ := hQ3
  have N3 := Fr.app N2 Nq3
  obtain ⟨fs, hr, hrun, hended, hW, hsame⟩ := X3.leave (v := some (.int (1 : Int32))) (fun h => by rw [Bd.returns] at h; cases h)
  refine ⟨_, _, pre0 _ ?_, hrun, hended, _, _, rfl, ?_, ⟨_, rfl⟩, hW, hsame.mono (by decide) (by decide)⟩
  · show Steps p.tables e below (s₁.setTop (mkF m 0 #[.val (.long q0), .second, .val (.long q1), .second, .val (.long q2), .second, .val (.long q3), .second, .val (.int p4), .unset, .unset, .unset, .unset, .unset, .unset] [])) _
    refine XS.iload X0.here hx rfl (hb hby at_0) rfl ?_
    show Steps p.tables e below (s₁.setTop (mkF m 2 #[.val (.long q0), .second, .val (.long q1), .second, .val (.long q2), .second, .val (.long q3), .second, .val (.int p4), .unset, .unset, .unset, .unset, .unset, .unset] [(.int p4)])) _
    refine X0.ldcInt hx hown (mvT hZ (hw _ (List.mem_of_getElem? (i := 0) rfl))) (g := (mkF m 2 #[.val (.long q0), .second, .val (.long q1), .second, .val (.long q2), .second, .val (.long q3), .second, .val (.int p4), .unset, .unset, .unset, .unset, .unset, .unset] [(.int p4)])) rfl (hb hby at_2) _ ?_
    show Steps p.tables e below (s₁.setTop (mkF m 4 #[.val (.long q0), .second, .val (.long q1), .second, .val (.long q2), .second, .val (.long q3), .second, .val (.int p4), .unset, .unset, .unset, .unset, .unset, .unset] [(.int (2147483647 : Int32)), (.int p4)])) _
    refine XS.iand X0.here hx rfl (hb hby at_4) rfl ?_
    show Steps p.tables e below (s₁.setTop (mkF m 5 #[.val (.long q0), .second, .val (.long q1), .second, .val (.long q2), .second, .val (.long q3), .second, .val (.int p4), .unset, .unset, .unset, .unset, .unset, .unset] [(.int (p4 &&& (2147483647 : Int32)))])) _
    refine XS.iconst X0.here hx rfl (hb hby at_5) ?_
    show Steps p.tables e below (s₁.setTop (mkF m 6 #[.val (.long q0), .second, .val (.long q1), .second, .val (.long q2), .second, .val (.long q3), .second, .val (.int p4), .unset, .unset, .unset, .unset, .unset, .unset] [(.int (5 : Int32)), (.int (p4 &&& (2147483647 : Int32)))])) _
    refine iremM X0 hx (g := (mkF m 6 #[.val (.long q0), .second, .val (.long q1), .second, .val (.long q2), .second, .val (.long q3), .second, .val (.int p4), .unset, .unset, .unset, .unset, .unset, .unset] [(.int (5 : Int32)), (.int (p4 &&& (2147483647 : Int32)))])) rfl (hb hby at_6) rfl (by decide) ?_
    show Steps p.tables e below (s₁.setTop (mkF m 7 #[.val (.long q0), .second, .val (.long q1), .second, .val (.long q2), .second, .val (.long q3), .second, .val (.int p4), .unset, .unset, .unset, .unset, .unset, .unset] [(.int ((p4 &&& (2147483647 : Int32)) % (5 : Int32)))])) _
    rw [hn]
    show Steps p.tables e below (s₁.setTop (mkF m 7 #[.val (.long q0), .second, .val (.long q1), .second, .val (.long q2), .second, .val (.long q3), .second, .val (.int p4), .unset, .unset, .unset, .unset, .unset, .unset] [(.int (0 : Int32))])) _
    refine XS.istore X0.here hx rfl (hb hby at_7) rfl (l' := #[.val (.long q0), .second, .val (.long q1), .second, .val (.long q2), .second, .val (.long q3), .second, .val (.int p4), .val (.int (0 : Int32)), .unset, .unset, .unset, .unset, .unset]) rfl ?_
    show Steps p.tables e below (s₁.setTop (mkF m 9 #[.val (.long q0), .second, .val (.long q1), .second, .val (.long q2), .second, .val (.long q3), .second, .val (.int p4), .val (.int (0 : Int32)), .unset, .unset, .unset, .unset, .unset] [])) _
    refine st1 _ ?_
    show Steps p.tables e below (T1.setTop (mkF m 12 #[.val (.long q0), .second, .val (.long q1), .second, .val (.long q2), .second, .val (.long q3), .second, .val (.int p4), .val (.int (0 : Int32)), .unset, .unset, .unset, .unset, .unset] [(.ref b1)])) _
    refine XS.dup X1.here hx rfl (hb hby at_12) rfl rfl ?_
    show Steps p.tables e below (T1.setTop (mkF m 13 #[.val (.long q0), .second, .val (.long q1), .second, .val (.long q2), .second, .val (.long q3), .second, .val (.int p4), .val (.int (0 : Int32)), .unset, .unset, .unset, .unset, .unset] [(.ref b1), (.ref b1)])) _
    refine st2.trans ?_
    show Steps p.tables e below (T2.setTop (mkF m 16 #[.val (.long q0), .second, .val (.long q1), .second, .val (.long q2), .second, .val (.long q3), .second, .val (.int p4), .val (.int (0 : Int32)), .unset, .unset, .unset, .unset, .unset] [(.ref b1)])) _
    refine XS.astore X2.here hx rfl (hb hby at_16) rfl rfl (l' := #[.val (.long q0), .second, .val (.long q1), .second, .val (.long q2), .second, .val (.long q3), .second, .val (.int p4), .val (.int (0 : Int32)), .val (.ref b1), .unset, .unset, .unset, .unset]) rfl ?_
    show Steps p.tables e below (T2.setTop (mkF m 18 #[.val (.long q0), .second, .val (.long q1), .second, .val (.long q2), .second, .val (.long q3), .second, .val (.int p4), .val (.int (0 : Int32)), .val (.ref b1), .unset, .unset, .unset, .unset] [])) _
    refine XS.iload X2.here hx rfl (hb hby at_18) rfl ?_
    show Steps p.tables e below (T2.setTop (mkF m 20 #[.val (.long q0), .second, .val (.long q1), .second, .val (.long q2), .second, .val (.long q3), .second, .val (.int p4), .val (.int (0 : Int32)), .val (.ref b1), .unset, .unset, .unset, .unset] [(.int (0 : Int32))])) _
    refine XS.iconst X2.here hx rfl (hb hby at_20) ?_
    show Steps p.tables e below (T2.setTop (mkF m 21 #[.val (.long q0), .second, .val (.long q1), .second, .val (.long q2), .second, .val (.long q3), .second, .val (.int p4), .val (.int (0 : Int32)), .val (.ref b1), .unset, .unset, .unset, .unset] [(.int (1 : Int32)), (.int (0 : Int32))])) _
    refine XS.icmpYes X2.here hx rfl (pc0 := 21) (pc' := 30) rfl (hb hby at_21) rfl (tlt (by decide : (0 : Int32) < (1 : Int32))).1 (by decide) (by decide) ?_
    show Steps p.tables e below (T2.setTop (mkF m 30 #[.val (.long q0), .second, .val (.long q1), .second, .val (.long q2), .second, .val (.long q3), .second, .val (.int p4), .val (.int (0 : Int32)), .val (.ref b1), .unset, .unset, .unset, .unset] [])) _
    refine XS.iload X2.here hx rfl (hb hby at_30) rfl ?_
    show Steps p.tables e below (T2.setTop (mkF m 32 #[.val (.long q0), .second, .val (.long q1), .second, .val (.long q2), .second, .val (.long q3), .second, .val (.int p4), .val (.int (0 : Int32)), .val (.ref b1), .unset, .unset, .unset, .unset] [(.int (0 : Int32))])) _
    refine XS.iconst X2.here hx rfl (hb hby at_32) ?_
    show Steps p.tables e below (T2.setTop (mkF m 33 #[.val (.long q0), .second, .val (.long q1), .second, .val (.long q2), .second, .val (.long q3), .second, .val (.int p4), .val (.int (0 : Int32)), .val (.ref b1), .unset, .unset, .unset, .unset] [(.int (2 : Int32)), (.int (0 : Int32))])) _
    refine XS.icmpYes X2.here hx rfl (pc0 := 33) (pc' := 42) rfl (hb hby at_33) rfl (tlt (by decide : (0 : Int32) < (2 : Int32))).1 (by decide) (by decide) ?_
    show Steps p.tables e below (T2.setTop (mkF m 42 #[.val (.long q0), .second, .val (.long q1), .second, .val (.long q2), .second, .val (.long q3), .second, .val (.int p4), .val (.int (0 : Int32)), .val (.ref b1), .unset, .unset, .unset, .unset] [])) _
    refine XS.iload X2.here hx rfl (hb hby at_42) rfl ?_
    show Steps p.tables e below (T2.setTop (mkF m 44 #[.val (.long q0), .second, .val (.long q1), .second, .val (.long q2), .second, .val (.long q3), .second, .val (.int p4), .val (.int (0 : Int32)), .val (.ref b1), .unset, .unset, .unset, .unset] [(.int (0 : Int32))])) _
    refine XS.iconst X2.here hx rfl (hb hby at_44) ?_
    show Steps p.tables e below (T2.setTop (mkF m 45 #[.val (.long q0), .second, .val (.long q1), .second, .val (.long q2), .second, .val (.long q3), .second, .val (.int p4), .val (.int (0 : Int32)), .val (.ref b1), .unset, .unset, .unset, .unset] [(.int (3 : Int32)), (.int (0 : Int32))])) _
    refine XS.icmpYes X2.here hx rfl (pc0 := 45) (pc' := 55) rfl (hb hby at_45) rfl (tlt (by decide : (0 : Int32) < (3 : Int32))).1 (by decide) (by decide) ?_
    show Steps p.tables e below (T2.setTop (mkF m 55 #[.val (.long q0), .second, .val (.long q1), .second, .val (.long q2), .second, .val (.long q3), .second, .val (.int p4), .val (.int (0 : Int32)), .val (.ref b1), .unset, .unset, .unset, .unset] [])) _
    refine XS.iload X2.here hx rfl (hb hby at_55) rfl ?_
    show Steps p.tables e below (T2.setTop (mkF m 57 #[.val (.long q0), .second, .val (.long q1), .second, .val (.long q2), .second, .val (.long q3), .second, .val (.int p4), .val (.int (0 : Int32)), .val (.ref b1), .unset, .unset, .unset, .unset] [(.int (0 : Int32))])) _
    refine XS.iconst X2.here hx rfl (hb hby at_57) ?_
    show Steps p.tables e below (T2.setTop (mkF m 58 #[.val (.long q0), .second, .val (.long q1), .second, .val (.long q2), .second, .val (.long q3), .second, .val (.int p4), .val (.int (0 : Int32)), .val (.ref b1), .unset, .unset, .unset, .unset] [(.int (4 : Int32)), (.int (0 : Int32))])) _
    refine XS.icmpYes X2.here hx rfl (pc0 := 58) (pc' := 68) rfl (hb hby at_58) rfl (tlt (by decide : (0 : Int32) < (4 : Int32))).1 (by decide) (by decide) ?_
    show Steps p.tables e below (T2.setTop (mkF m 68 #[.val (.long q0), .second, .val (.long q1), .second, .val (.long q2), .second, .val (.long q3), .second, .val (.int p4), .val (.int (0 : Int32)), .val (.ref b1), .unset, .unset, .unset, .unset] [])) _
    refine XS.aload X2.here hx rfl (hb hby at_68) rfl rfl ?_
    show Steps p.tables e below (T2.setTop (mkF m 70 #[.val (.long q0), .second, .val (.long q1), .second, .val (.long q2), .second, .val (.long q3), .second, .val (.int p4), .val (.int (0 : Int32)), .val (.ref b1), .unset, .unset, .unset, .unset] [(.ref b1)])) _
    refine st3.trans ?_
    show Steps p.tables e below (T3.setTop (mkF m 73 #[.val (.long q0), .second, .val (.long q1), .second, .val (.long q2), .second, .val (.long q3), .second, .val (.int p4), .val (.int (0 : Int32)), .val (.ref b1), .unset, .unset, .unset, .unset] [(.double 9221120237041090560)])) _
    refine XS.dstore X3.here hx rfl (hb hby at_73) rfl (l' := #[.val (.long q0), .second, .val (.long q1), .second, .val (.long q2), .second, .val (.long q3), .second, .val (.int p4), .val (.int (0 : Int32)), .val (.ref b1), .val (.double 9221120237041090560), .second, .unset, .unset]) rfl ?_
    show Steps p.tables e below (T3.setTop (mkF m 75 #[.val (.long q0), .second, .val (.long q1), .second, .val (.long q2), .second, .val (.long q3), .second, .val (.int p4), .val (.int (0 : Int32)), .val (.ref b1), .val (.double 9221120237041090560), .second, .unset, .unset] [])) _
    refine XS.iload X3.here hx rfl (hb hby at_75) rfl ?_
    show Steps p.tables e below (T3.setTop (mkF m 77 #[.val (.long q0), .second, .val (.long q1), .second, .val (.long q2), .second, .val (.long q3), .second, .val (.int p4), .val (.int (0 : Int32)), .val (.ref b1), .val (.double 9221120237041090560), .second, .unset, .unset] [(.int (0 : Int32))])) _
    refine XS.ifNo X3.here hx rfl (hb hby at_77) rfl ((if0 _ _).trans (teq (rfl : (0 : Int32) = (0 : Int32))).2) ?_
    show Steps p.tables e below (T3.setTop (mkF m 80 #[.val (.long q0), .second, .val (.long q1), .second, .val (.long q2), .second, .val (.long q3), .second, .val (.int p4), .val (.int (0 : Int32)), .val (.ref b1), .val (.double 9221120237041090560), .second, .unset, .unset] [])) _
    refine XS.dload X3.here hx rfl (hb hby at_80) rfl ?_
    show Steps p.tables e below (T3.setTop (mkF m 82 #[.val (.long q0), .second, .val (.long q1), .second, .val (.long q2), .second, .val (.long q3), .second, .val (.int p4), .val (.int (0 : Int32)), .val (.ref b1), .val (.double 9221120237041090560), .second, .unset, .unset] [(.double 9221120237041090560)])) _
    refine XS.dload X3.here hx rfl (hb hby at_82) rfl ?_
    show Steps p.tables e below (T3.setTop (mkF m 84 #[.val (.long q0), .second, .val (.long q1), .second, .val (.long q2), .second, .val (.long q3), .second, .val (.int p4), .val (.int (0 : Int32)), .val (.ref b1), .val (.double 9221120237041090560), .second, .unset, .unset] [(.double 9221120237041090560), (.double 9221120237041090560)])) _
    refine XS.dcmpS X3.here hx rfl (hb hby at_84) rfl (v := (-1 : Int32)) (by decide +kernel) ?_
    show Steps p.tables e below (T3.setTop (mkF m 85 #[.val (.long q0), .second, .val (.long q1), .second, .val (.long q2), .second, .val (.long q3), .second, .val (.int p4), .val (.int (0 : Int32)), .val (.ref b1), .val (.double 9221120237041090560), .second, .unset, .unset] [(.int (-1 : Int32))])) _
    refine XS.ifNo X3.here hx rfl (hb hby at_85) rfl ((if0 _ _).trans (feq (by decide : ¬ ((-1 : Int32) = (0 : Int32)))).1) ?_
    show Steps p.tables e below (T3.setTop (mkF m 88 #[.val (.long q0), .second, .val (.long q1), .second, .val (.long q2), .second, .val (.long q3), .second, .val (.int p4), .val (.int (0 : Int32)), .val (.ref b1), .val (.double 9221120237041090560), .second, .unset, .unset] [])) _
    refine XS.iconst X3.here hx rfl (hb hby at_88) ?_
    show Steps p.tables e below (T3.setTop (mkF m 89 #[.val (.long q0), .second, .val (.long q1), .second, .val (.long q2), .second, .val (.long q3), .second, .val (.int p4), .val (.int (0 : Int32)), .val (.ref b1), .val (.double 9221120237041090560), .second, .unset, .unset] [(.int (1 : Int32))])) _
    refine XS.goto X3.here hx rfl (pc0 := 89) (pc' := 93) rfl (hb hby at_89) (by decide) (by decide) ?_
    show Steps p.tables e below (T3.setTop (mkF m 93 #[.val (.long q0), .second, .val (.long q1), .second, .val (.long q2), .second, .val (.long q3), .second, .val (.int p4), .val (.int (0 : Int32)), .val (.ref b1), .val (.double 9221120237041090560), .second, .unset, .unset] [(.int (1 : Int32))])) _
    exact retN X3 hx (t := .boolean) Bd.returns (by simp) (hb hby at_93) hr
  · show Q_rm0_0 Z q0 q1 q2 q3 p4 h0 n0 _ T3.heap _
    rw [e3]
    exact ⟨rfl, N3⟩
theorem pd_9 : parseMethodDescriptor "(J)V" = some ⟨[.long], none⟩ := by decide +kernel
def Q_rm0_1 (Z : State) (q0 : Int64) (q1 : Int64) (q2 : Int64) (q3 : Int64) (p4 : Int32) (h0 : Heap) (n0 : Nat) (v : Option Value) (h : Heap) (L : List Loc) : Prop := v = some (.int (1 : Int32)) ∧ Fr n0 L
theorem ef_rm0_1 (m : MethodId) (q0 : Int64) (q1 : Int64) (q2 : Int64) (q3 : Int64) (p4 : Int32) : entryFrame m #[(.long q0), (.long q1), (.long q2), (.long q3), (.int p4)] maxLocals = mkF m 0 #[.val (.long q0), .second, .val (.long q1), .second, .val (.long q2), .second, .val (.long q3), .second, .val (.int p4), .unset, .unset, .unset, .unset, .unset, .unset] [] := by first | (simp [entryFrame, mkF, argsToLocals, Value.category, maxLocals]; done) | rfl
set_option maxRecDepth 65536 in
set_option maxHeartbeats 40000000 in
theorem rm0_1 (l : Launch) (Z : State) (a0 : Array Value) (hw : ∀ d ∈ tables_1, d.before a0 Z = true) (ws : List Jvm.Cond) (q0 : Int64) (q1 : Int64) (q2 : Int64) (q3 : Int64) (p4 : Int32) (h0 : Heap) (n0 : Nat) (Z0 : n0 ≤ h0.size) (hn : ((p4 &&& (2147483647 : Int32)) % (5 : Int32)) = (1 : Int32)) :
    MetFree l x (head1 (Jvm.Cond.code x code maxLocals ret :: ws) room_1) (fun a U => a = #[(.long q0), (.long q1), (.long q2), (.long q3), (.int p4)] ∧ Z.Warmed39 U.vm ∧ U.heap = h0) (fun _ _ _ _ _ => True) (fun _ U o U' => ∃ v L, o = .returned v ∧ Q_rm0_1 Z q0 q1 q2 q3 p4 h0 n0 v U'.heap L ∧ FrameEnd U o U' L room_1.cells room_1.slots) := by
  refine MetFree.of_bodySF (plainFor_of_name pn_4) hisR ?_
  intro p e s m args below meth c s₁ Bd hml0 hP hK
  obtain ⟨rfl, hZ, hh⟩ := hP
  have hx := Bd.exec
  have hby := Bd.bytes
  have hml : c.maxLocals = 15 := hml0
  have hown : s.vm.findClass "com/example/tolc/tolc/RecentResponseTimesAddPinLaw" = some m.cls := findClass_of_methodNamed Bd.named
  have hnm := (name_of_methodNamed Bd.named Bd.method).1
  have X0 : Stand p l e room_1 s m #[(.long q0), (.long q1), (.long q2), (.long q3), (.int p4)] below meth c s₁ [] 0 0 := Stand.of_body Bd
  have e0 : s₁.heap = h0 := by rw [← hh, Bd.state]; rfl
  have N0 := Fr.nil n0
  have pre0 : ∀ t, Steps p.tables e below (s₁.setTop (mkF m 0 #[.val (.long q0), .second, .val (.long q1), .second, .val (.long q2), .second, .val (.long q3), .second, .val (.int p4), .unset, .unset, .unset, .unset, .unset, .unset] [])) t → Steps p.tables e below (s₁.setTop (entryFrame m #[(.long q0), (.long q1), (.long q2), (.long q3), (.int p4)] maxLocals)) t := fun t k => castTop (ef_rm0_1 m q0 q1 q2 q3 p4) k
  obtain ⟨T1, h1, X1, e1, E1, A1, D1, -, st1⟩ := newO X0 hx hZ hown (hw _ (List.mem_of_getElem? (i := 1) rfl)) (hw _ (List.mem_of_getElem? (i := 2) rfl)) (hw _ (List.mem_of_getElem? (i := 3) rfl)) e0 (g := (mkF m 9 #[.val (.long q0), .second, .val (.long q1), .second, .val (.long q2), .second, .val (.long q3), .second, .val (.int p4), .val (.int (1 : Int32)), .unset, .unset, .unset, .unset, .unset] [])) rfl (hb hby at_9) (by decide) (by decide)
  obtain ⟨b1, g1⟩ : ∃ z, z = h0.size := ⟨_, rfl⟩
  rw [← g1] at A1 D1 st1
  have F1_1 : Fld Z h1 b1 "com/example/tolc/tolc/RecentResponseTimes" "nanos" "[J" .null := D1 (Or.inr (hw _ (List.mem_of_getElem? (i := 12) rfl))) (ty := (.array .long)) (by decide)
  have F1_2 : Fld Z h1 b1 "com/example/tolc/tolc/RecentResponseTimes" "next" "I" (.int (0 : Int32)) := D1 (Or.inl (hw _ (List.mem_of_getElem? (i := 19) rfl))) (ty := .int) (by decide)
  have F1_3 : Fld Z h1 b1 "com/example/tolc/tolc/RecentResponseTimes" "size" "I" (.int (0 : Int32)) := D1 (Or.inl (hw _ (List.mem_of_getElem? (i := 21) rfl))) (ty := .int) (by decide)
  obtain ⟨_, _, ⟨T2, L2, k2, n2⟩, -, X2, ⟨Lc2, hQ2, l2, y2, z2⟩, st2⟩ := X1.specialBack hx (y := (⟨"com/example/tolc/tolc/RecentResponseTimes", "<init>", "()V"⟩ : MethodName)) rfl hown (mvT hZ (hw _ (List.mem_of_getElem? (i := 4) rfl))) (mvT hZ (hw _ (List.mem_of_getElem? (i := 5) rfl))) (mvT hZ (hw _ (List.mem_of_getElem? (i := 6) rfl))) (by decide) (backOf (W := 1) (rmI l Z a0 hw [] b1 .null h1 n0 (Nat.le_trans Z0 E1.1) F1_2 F1_3 F1_1 A1 (Nat.le_trans Z0 (Nat.le_of_eq g1.symm))) hZ (hw _ (List.mem_of_getElem? (i := 6) rfl)) (hw _ (List.mem_of_getElem? (i := 3) rfl)) (by decide) (by decide)) (g := (mkF m 13 #[.val (.long q0), .second, .val (.long q1), .second, .val (.long q2), .second, .val (.long q3), .second, .val (.int p4), .val (.int (1 : Int32)), .unset, .unset, .unset, .unset, .unset] [(.ref b1), (.ref b1)])) rfl (by rw [hml]; rfl) (Steps.refl _) (a := b1) (argsL := []) (rest := [(.ref b1)]) (lenOf pd_7 rfl) rfl (by show 2 * 0 + _ ≤ _; exact Nat.le_of_eq rfl) (hb hby at_13) (fun _ _ => ⟨rfl, e1, (by decide : 1 + 1 ≤ _), (by decide : 3 + 100 ≤ _)⟩)
  dsimp only [Pt.U, Pt.locs, Pt.cells, Pt.slots] at X2 l2 y2 z2 st2 hQ2
  subst l2 y2 z2
  obtain ⟨na_2, ka_2, rfl, Nq2, gb2_0, Kp2, Fq2_0, Fq2_1, Fq2_2, Fq2_3, Fq2_4⟩ := hQ2
  have N2 := Fr.app N0 Nq2
  obtain ⟨cq3, kq3, q3a, q3b, q3c⟩ := isOf hZ rfl Fq2_0
  obtain ⟨_, _, ⟨T3, L3, k3, n3⟩, -, X3, ⟨Lc3, hQ3, l3, y3, z3⟩, st3⟩ := X2.virtualBack hx (y := (⟨"com/example/tolc/tolc/RecentResponseTimes", "add", "(J)V"⟩ : MethodName)) (z := (⟨"com/example/tolc/tolc/RecentResponseTimes", "add", "(J)V"⟩ : MethodName)) hown (mvT hZ (hw _ (List.mem_of_getElem? (i := 13) rfl))) (mvT hZ (hw _ (List.mem_of_getElem? (i := 14) rfl))) (notFace_of_selects (args := #[]) (mvT hZ (hw _ (List.mem_of_getElem? (i := 16) rfl)))) (mvT hZ (hw _ (List.mem_of_getElem? (i := 16) rfl))) (mvT hZ (hw _ (List.mem_of_getElem? (i := 15) rfl))) (by decide) (backOf (W := 0) (rmA0 l Z a0 hw [] b1 q0 na_2 ka_2 (0 : Int64) (0 : Int64) (0 : Int64) (0 : Int64) T2.heap n0 (Nat.le_trans (Nat.le_trans Z0 E1.1) Kp2.1) Fq2_0 Fq2_1 Fq2_2 Fq2_3 Fq2_4 (Nat.le_trans (Nat.le_trans Z0 E1.1) gb2_0) (Nat.ne_of_lt (Nat.lt_of_lt_of_le A1.lt gb2_0)) (Nat.le_trans Z0 (Nat.le_of_eq g1.symm))) hZ (hw _ (List.mem_of_getElem? (i := 17) rfl)) (hw _ (List.mem_of_getElem? (i := 3) rfl)) (by decide) (by decide)) q3a q3c (g := (mkF m 27 #[.val (.long q0), .second, .val (.long q1), .second, .val (.long q2), .second, .val (.long q3), .second, .val (.int p4), .val (.int (1 : Int32)), .val (.ref b1), .unset, .unset, .unset, .unset] [(.long q0), (.ref b1)])) rfl (by rw [hml]; rfl) (Steps.refl _) (argsL := [(.long q0)]) (rest := []) (lenOf pd_9 rfl) rfl (by show 2 * 0 + _ ≤ _; exact Nat.le_of_eq rfl) (hb hby at_27) (fun _ _ => ⟨rfl, rfl, (by decide : 2 + 0 ≤ _), (by decide : 103 + 0 ≤ _)⟩)
  dsimp only [Pt.U, Pt.locs, Pt.cells, Pt.slots] at X3 l3 y3 z3 st3 hQ3
  subst l3 y3 z3
  obtain ⟨rfl, Nq3, Kp3, Fq3_0, Fq3_1, Fq3_2, Fq3_3, Fq3_4⟩ := hQ3
  have N3 := Fr.app N2 Nq3
  obtain ⟨cq4, kq4, q4a, q4b, q4c⟩ := isOf hZ rfl Fq3_0
  obtain ⟨_, _, ⟨T4, L4, k4, n4⟩, -, X4, ⟨Lc4, hQ4, l4, y4, z4⟩, st4⟩ := X3.virtualBack hx (y := (⟨"com/example/tolc/tolc/RecentResponseTimes", "p90Millis", "()D"⟩ : MethodName)) (z := (⟨"com/example/tolc/tolc/RecentResponseTimes", "p90Millis", "()D"⟩ : MethodName)) hown (mvT hZ (hw _ (List.mem_of_getElem? (i := 26) rfl))) (mvT hZ (hw _ (List.mem_of_getElem? (i := 27) rfl))) (notFace_of_selects (args := #[]) (mvT hZ (hw _ (List.mem_of_getElem? (i := 29) rfl)))) (mvT hZ (hw _ (List.mem_of_getElem? (i := 29) rfl))) (mvT hZ (hw _ (List.mem_of_getElem? (i := 28) rfl))) (by decide) (backOf (W := 0) (rmP1 l Z a0 hw [] b1 na_2 ka_2 q0 (0 : Int64) (0 : Int64) (0 : Int64) T3.heap n0 (Nat.le_trans (Nat.le_trans (Nat.le_trans Z0 E1.1) Kp2.1) Kp3.1) Fq3_0 Fq3_1 Fq3_3 Fq3_4) hZ (hw _ (List.mem_of_getElem? (i := 30) rfl)) (hw _ (List.mem_of_getElem? (i := 3) rfl)) (by decide) (by decide)) q4a q4c (g := (mkF m 70 #[.val (.long q0), .second, .val (.long q1), .second, .val (.long q2), .second, .val (.long q3), .second, .val (.int p4), .val (.int (1 : Int32)), .val (.ref b1), .unset, .unset, .unset, .unset] [(.ref b1)])) rfl (by rw [hml]; rfl) (Steps.refl _) (argsL := []) (rest := []) (lenOf pd_8 rfl) rfl (by show 2 * 0 + _ ≤ _; exact Nat.le_of_eq rfl) (hb hby at_70) (fun _ _ => ⟨rfl, rfl, (by decide : 2 + 1 ≤ _), (by decide : 103 + 1 ≤ _)⟩)
  dsimp only [Pt.U, Pt.locs, Pt.cells, Pt.slots] at X4 l4 y4 z4 st4 hQ4
  subst l4 y4 z4
  obtain ⟨rfl, Nq4, Kp4⟩ := hQ4
  have N4 := Fr.app N3 Nq4
  obtain ⟨fs, hr, hrun, hended, hW, hsame⟩ := X4.leave (v := some (.int (1 : Int32))) (fun h => by rw [Bd.returns] at h; cases h)
  refine ⟨_, _, pre0 _ ?_, hrun, hended, _, _, rfl, ?_, ⟨_, rfl⟩, hW, hsame.mono (by decide) (by decide)⟩
  · show Steps p.tables e below (s₁.setTop (mkF m 0 #[.val (.long q0), .second, .val (.long q1), .second, .val (.long q2), .second, .val (.long q3), .second, .val (.int p4), .unset, .unset, .unset, .unset, .unset, .unset] [])) _
    refine XS.iload X0.here hx rfl (hb hby at_0) rfl ?_
    show Steps p.tables e below (s₁.setTop (mkF m 2 #[.val (.long q0), .second, .val (.long q1), .second, .val (.long q2), .second, .val (.long q3), .second, .val (.int p4), .unset, .unset, .unset, .unset, .unset, .unset] [(.int p4)])) _
    refine X0.ldcInt hx hown (mvT hZ (hw _ (List.mem_of_getElem? (i := 0) rfl))) (g := (mkF m 2 #[.val (.long q0), .second, .val (.long q1), .second, .val (.long q2), .second, .val (.long q3), .second, .val (.int p4), .unset, .unset, .unset, .unset, .unset, .unset] [(.int p4)])) rfl (hb hby at_2) _ ?_
    show Steps p.tables e below (s₁.setTop (mkF m 4 #[.val (.long q0), .second, .val (.long q1), .second, .val (.long q2), .second, .val (.long q3), .second, .val (.int p4), .unset, .unset, .unset, .unset, .unset, .unset] [(.int (2147483647 : Int32)), (.int p4)])) _
    refine XS.iand X0.here hx rfl (hb hby at_4) rfl ?_
    show Steps p.tables e below (s₁.setTop (mkF m 5 #[.val (.long q0), .second, .val (.long q1), .second, .val (.long q2), .second, .val (.long q3), .second, .val (.int p4), .unset, .unset, .unset, .unset, .unset, .unset] [(.int (p4 &&& (2147483647 : Int32)))])) _
    refine XS.iconst X0.here hx rfl (hb hby at_5) ?_
    show Steps p.tables e below (s₁.setTop (mkF m 6 #[.val (.long q0), .second, .val (.long q1), .second, .val (.long q2), .second, .val (.long q3), .second, .val (.int p4), .unset, .unset, .unset, .unset, .unset, .unset] [(.int (5 : Int32)), (.int (p4 &&& (2147483647 : Int32)))])) _
    refine iremM X0 hx (g := (mkF m 6 #[.val (.long q0), .second, .val (.long q1), .second, .val (.long q2), .second, .val (.long q3), .second, .val (.int p4), .unset, .unset, .unset, .unset, .unset, .unset] [(.int (5 : Int32)), (.int (p4 &&& (2147483647 : Int32)))])) rfl (hb hby at_6) rfl (by decide) ?_
    show Steps p.tables e below (s₁.setTop (mkF m 7 #[.val (.long q0), .second, .val (.long q1), .second, .val (.long q2), .second, .val (.long q3), .second, .val (.int p4), .unset, .unset, .unset, .unset, .unset, .unset] [(.int ((p4 &&& (2147483647 : Int32)) % (5 : Int32)))])) _
    rw [hn]
    show Steps p.tables e below (s₁.setTop (mkF m 7 #[.val (.long q0), .second, .val (.long q1), .second, .val (.long q2), .second, .val (.long q3), .second, .val (.int p4), .unset, .unset, .unset, .unset, .unset, .unset] [(.int (1 : Int32))])) _
    refine XS.istore X0.here hx rfl (hb hby at_7) rfl (l' := #[.val (.long q0), .second, .val (.long q1), .second, .val (.long q2), .second, .val (.long q3), .second, .val (.int p4), .val (.int (1 : Int32)), .unset, .unset, .unset, .unset, .unset]) rfl ?_
    show Steps p.tables e below (s₁.setTop (mkF m 9 #[.val (.long q0), .second, .val (.long q1), .second, .val (.long q2), .second, .val (.long q3), .second, .val (.int p4), .val (.int (1 : Int32)), .unset, .unset, .unset, .unset, .unset] [])) _
    refine st1 _ ?_
    show Steps p.tables e below (T1.setTop (mkF m 12 #[.val (.long q0), .second, .val (.long q1), .second, .val (.long q2), .second, .val (.long q3), .second, .val (.int p4), .val (.int (1 : Int32)), .unset, .unset, .unset, .unset, .unset] [(.ref b1)])) _
    refine XS.dup X1.here hx rfl (hb hby at_12) rfl rfl ?_
    show Steps p.tables e below (T1.setTop (mkF m 13 #[.val (.long q0), .second, .val (.long q1), .second, .val (.long q2), .second, .val (.long q3), .second, .val (.int p4), .val (.int (1 : Int32)), .unset, .unset, .unset, .unset, .unset] [(.ref b1), (.ref b1)])) _
    refine st2.trans ?_
    show Steps p.tables e below (T2.setTop (mkF m 16 #[.val (.long q0), .second, .val (.long q1), .second, .val (.long q2), .second, .val (.long q3), .second, .val (.int p4), .val (.int (1 : Int32)), .unset, .unset, .unset, .unset, .unset] [(.ref b1)])) _
    refine XS.astore X2.here hx rfl (hb hby at_16) rfl rfl (l' := #[.val (.long q0), .second, .val (.long q1), .second, .val (.long q2), .second, .val (.long q3), .second, .val (.int p4), .val (.int (1 : Int32)), .val (.ref b1), .unset, .unset, .unset, .unset]) rfl ?_
    show Steps p.tables e below (T2.setTop (mkF m 18 #[.val (.long q0), .second, .val (.long q1), .second, .val (.long q2), .second, .val (.long q3), .second, .val (.int p4), .val (.int (1 : Int32)), .val (.ref b1), .unset, .unset, .unset, .unset] [])) _
    refine XS.iload X2.here hx rfl (hb hby at_18) rfl ?_
    show Steps p.tables e below (T2.setTop (mkF m 20 #[.val (.long q0), .second, .val (.long q1), .second, .val (.long q2), .second, .val (.long q3), .second, .val (.int p4), .val (.int (1 : Int32)), .val (.ref b1), .unset, .unset, .unset, .unset] [(.int (1 : Int32))])) _
    refine XS.iconst X2.here hx rfl (hb hby at_20) ?_
    show Steps p.tables e below (T2.setTop (mkF m 21 #[.val (.long q0), .second, .val (.long q1), .second, .val (.long q2), .second, .val (.long q3), .second, .val (.int p4), .val (.int (1 : Int32)), .val (.ref b1), .unset, .unset, .unset, .unset] [(.int (1 : Int32)), (.int (1 : Int32))])) _
    refine XS.icmpNo X2.here hx rfl (hb hby at_21) rfl (flt (by decide : ¬ ((1 : Int32) < (1 : Int32)))).1 ?_
    show Steps p.tables e below (T2.setTop (mkF m 24 #[.val (.long q0), .second, .val (.long q1), .second, .val (.long q2), .second, .val (.long q3), .second, .val (.int p4), .val (.int (1 : Int32)), .val (.ref b1), .unset, .unset, .unset, .unset] [])) _
    refine XS.aload X2.here hx rfl (hb hby at_24) rfl rfl ?_
    show Steps p.tables e below (T2.setTop (mkF m 26 #[.val (.long q0), .second, .val (.long q1), .second, .val (.long q2), .second, .val (.long q3), .second, .val (.int p4), .val (.int (1 : Int32)), .val (.ref b1), .unset, .unset, .unset, .unset] [(.ref b1)])) _
    refine XS.lloadN X2.here hx rfl (hb hby at_26) rfl ?_
    show Steps p.tables e below (T2.setTop (mkF m 27 #[.val (.long q0), .second, .val (.long q1), .second, .val (.long q2), .second, .val (.long q3), .second, .val (.int p4), .val (.int (1 : Int32)), .val (.ref b1), .unset, .unset, .unset, .unset] [(.long q0), (.ref b1)])) _
    refine st3.trans ?_
    show Steps p.tables e below (T3.setTop (mkF m 30 #[.val (.long q0), .second, .val (.long q1), .second, .val (.long q2), .second, .val (.long q3), .second, .val (.int p4), .val (.int (1 : Int32)), .val (.ref b1), .unset, .unset, .unset, .unset] [])) _
    refine XS.iload X3.here hx rfl (hb hby at_30) rfl ?_
    show Steps p.tables e below (T3.setTop (mkF m 32 #[.val (.long q0), .second, .val (.long q1), .second, .val (.long q2), .second, .val (.long q3), .second, .val (.int p4), .val (.int (1 : Int32)), .val (.ref b1), .unset, .unset, .unset, .unset] [(.int (1 : Int32))])) _
    refine XS.iconst X3.here hx rfl (hb hby at_32) ?_
    show Steps p.tables e below (T3.setTop (mkF m 33 #[.val (.long q0), .second, .val (.long q1), .second, .val (.long q2), .second, .val (.long q3), .second, .val (.int p4), .val (.int (1 : Int32)), .val (.ref b1), .unset, .unset, .unset, .unset] [(.int (2 : Int32)), (.int (1 : Int32))])) _
    refine XS.icmpYes X3.here hx rfl (pc0 := 33) (pc' := 42) rfl (hb hby at_33) rfl (tlt (by decide : (1 : Int32) < (2 : Int32))).1 (by decide) (by decide) ?_
    show Steps p.tables e below (T3.setTop (mkF m 42 #[.val (.long q0), .second, .val (.long q1), .second, .val (.long q2), .second, .val (.long q3), .second, .val (.int p4), .val (.int (1 : Int32)), .val (.ref b1), .unset, .unset, .unset, .unset] [])) _
    refine XS.iload X3.here hx rfl (hb hby at_42) rfl ?_
    show Steps p.tables e below (T3.setTop (mkF m 44 #[.val (.long q0), .second, .val (.long q1), .second, .val (.long q2), .second, .val (.long q3), .second, .val (.int p4), .val (.int (1 : Int32)), .val (.ref b1), .unset, .unset, .unset, .unset] [(.int (1 : Int32))])) _
    refine XS.iconst X3.here hx rfl (hb hby at_44) ?_
    show Steps p.tables e below (T3.setTop (mkF m 45 #[.val (.long q0), .second, .val (.long q1), .second, .val (.long q2), .second, .val (.long q3), .second, .val (.int p4), .val (.int (1 : Int32)), .val (.ref b1), .unset, .unset, .unset, .unset] [(.int (3 : Int32)), (.int (1 : Int32))])) _
    refine XS.icmpYes X3.here hx rfl (pc0 := 45) (pc' := 55) rfl (hb hby at_45) rfl (tlt (by decide : (1 : Int32) < (3 : Int32))).1 (by decide) (by decide) ?_
    show Steps p.tables e below (T3.setTop (mkF m 55 #[.val (.long q0), .second, .val (.long q1), .second, .val (.long q2), .second, .val (.long q3), .second, .val (.int p4), .val (.int (1 : Int32)), .val (.ref b1), .unset, .unset, .unset, .unset] [])) _
    refine XS.iload X3.here hx rfl (hb hby at_55) rfl ?_
    show Steps p.tables e below (T3.setTop (mkF m 57 #[.val (.long q0), .second, .val (.long q1), .second, .val (.long q2), .second, .val (.long q3), .second, .val (.int p4), .val (.int (1 : Int32)), .val (.ref b1), .unset, .unset, .unset, .unset] [(.int (1 : Int32))])) _
    refine XS.iconst X3.here hx rfl (hb hby at_57) ?_
    show Steps p.tables e below (T3.setTop (mkF m 58 #[.val (.long q0), .second, .val (.long q1), .second, .val (.long q2), .second, .val (.long q3), .second, .val (.int p4), .val (.int (1 : Int32)), .val (.ref b1), .unset, .unset, .unset, .unset] [(.int (4 : Int32)), (.int (1 : Int32))])) _
    refine XS.icmpYes X3.here hx rfl (pc0 := 58) (pc' := 68) rfl (hb hby at_58) rfl (tlt (by decide : (1 : Int32) < (4 : Int32))).1 (by decide) (by decide) ?_
    show Steps p.tables e below (T3.setTop (mkF m 68 #[.val (.long q0), .second, .val (.long q1), .second, .val (.long q2), .second, .val (.long q3), .second, .val (.int p4), .val (.int (1 : Int32)), .val (.ref b1), .unset, .unset, .unset, .unset] [])) _
    refine XS.aload X3.here hx rfl (hb hby at_68) rfl rfl ?_
    show Steps p.tables e below (T3.setTop (mkF m 70 #[.val (.long q0), .second, .val (.long q1), .second, .val (.long q2), .second, .val (.long q3), .second, .val (.int p4), .val (.int (1 : Int32)), .val (.ref b1), .unset, .unset, .unset, .unset] [(.ref b1)])) _
    refine st4.trans ?_
    show Steps p.tables e below (T4.setTop (mkF m 73 #[.val (.long q0), .second, .val (.long q1), .second, .val (.long q2), .second, .val (.long q3), .second, .val (.int p4), .val (.int (1 : Int32)), .val (.ref b1), .unset, .unset, .unset, .unset] [(.double (FP.ddiv (FP.l2d q0) 4696837146684686336))])) _
    refine XS.dstore X4.here hx rfl (hb hby at_73) rfl (l' := #[.val (.long q0), .second, .val (.long q1), .second, .val (.long q2), .second, .val (.long q3), .second, .val (.int p4), .val (.int (1 : Int32)), .val (.ref b1), .val (.double (FP.ddiv (FP.l2d q0) 4696837146684686336)), .second, .unset, .unset]) rfl ?_
    show Steps p.tables e below (T4.setTop (mkF m 75 #[.val (.long q0), .second, .val (.long q1), .second, .val (.long q2), .second, .val (.long q3), .second, .val (.int p4), .val (.int (1 : Int32)), .val (.ref b1), .val (.double (FP.ddiv (FP.l2d q0) 4696837146684686336)), .second, .unset, .unset] [])) _
    refine XS.iload X4.here hx rfl (hb hby at_75) rfl ?_
    show Steps p.tables e below (T4.setTop (mkF m 77 #[.val (.long q0), .second, .val (.long q1), .second, .val (.long q2), .second, .val (.long q3), .second, .val (.int p4), .val (.int (1 : Int32)), .val (.ref b1), .val (.double (FP.ddiv (FP.l2d q0) 4696837146684686336)), .second, .unset, .unset] [(.int (1 : Int32))])) _
    refine XS.ifYes X4.here hx rfl (pc0 := 77) (pc' := 94) rfl (hb hby at_77) rfl ((if0 _ _).trans (feq (by decide : ¬ ((1 : Int32) = (0 : Int32)))).2) (by decide) (by decide) ?_
    show Steps p.tables e below (T4.setTop (mkF m 94 #[.val (.long q0), .second, .val (.long q1), .second, .val (.long q2), .second, .val (.long q3), .second, .val (.int p4), .val (.int (1 : Int32)), .val (.ref b1), .val (.double (FP.ddiv (FP.l2d q0) 4696837146684686336)), .second, .unset, .unset] [])) _
    refine XS.lloadN X4.here hx rfl (hb hby at_94) rfl ?_
    show Steps p.tables e below (T4.setTop (mkF m 95 #[.val (.long q0), .second, .val (.long q1), .second, .val (.long q2), .second, .val (.long q3), .second, .val (.int p4), .val (.int (1 : Int32)), .val (.ref b1), .val (.double (FP.ddiv (FP.l2d q0) 4696837146684686336)), .second, .unset, .unset] [(.long q0)])) _
    refine XS.lstore X4.here hx rfl (hb hby at_95) rfl (l' := #[.val (.long q0), .second, .val (.long q1), .second, .val (.long q2), .second, .val (.long q3), .second, .val (.int p4), .val (.int (1 : Int32)), .val (.ref b1), .val (.double (FP.ddiv (FP.l2d q0) 4696837146684686336)), .second, .val (.long q0), .second]) rfl ?_
    show Steps p.tables e below (T4.setTop (mkF m 97 #[.val (.long q0), .second, .val (.long q1), .second, .val (.long q2), .second, .val (.long q3), .second, .val (.int p4), .val (.int (1 : Int32)), .val (.ref b1), .val (.double (FP.ddiv (FP.l2d q0) 4696837146684686336)), .second, .val (.long q0), .second] [])) _
    refine XS.iload X4.here hx rfl (hb hby at_97) rfl ?_
    show Steps p.tables e below (T4.setTop (mkF m 99 #[.val (.long q0), .second, .val (.long q1), .second, .val (.long q2), .second, .val (.long q3), .second, .val (.int p4), .val (.int (1 : Int32)), .val (.ref b1), .val (.double (FP.ddiv (FP.l2d q0) 4696837146684686336)), .second, .val (.long q0), .second] [(.int (1 : Int32))])) _
    refine XS.iconst X4.here hx rfl (hb hby at_99) ?_
    show Steps p.tables e below (T4.setTop (mkF m 100 #[.val (.long q0), .second, .val (.long q1), .second, .val (.long q2), .second, .val (.long q3), .second, .val (.int p4), .val (.int (1 : Int32)), .val (.ref b1), .val (.double (FP.ddiv (FP.l2d q0) 4696837146684686336)), .second, .val (.long q0), .second] [(.int (2 : Int32)), (.int (1 : Int32))])) _
    refine XS.icmpYes X4.here hx rfl (pc0 := 100) (pc' := 111) rfl (hb hby at_100) rfl (tlt (by decide : (1 : Int32) < (2 : Int32))).1 (by decide) (by decide) ?_
    show Steps p.tables e below (T4.setTop (mkF m 111 #[.val (.long q0), .second, .val (.long q1), .second, .val (.long q2), .second, .val (.long q3), .second, .val (.int p4), .val (.int (1 : Int32)), .val (.ref b1), .val (.double (FP.ddiv (FP.l2d q0) 4696837146684686336)), .second, .val (.long q0), .second] [])) _
    refine XS.iload X4.here hx rfl (hb hby at_111) rfl ?_
    show Steps p.tables e below (T4.setTop (mkF m 113 #[.val (.long q0), .second, .val (.long q1), .second, .val (.long q2), .second, .val (.long q3), .second, .val (.int p4), .val (.int (1 : Int32)), .val (.ref b1), .val (.double (FP.ddiv (FP.l2d q0) 4696837146684686336)), .second, .val (.long q0), .second] [(.int (1 : Int32))])) _
    refine XS.iconst X4.here hx rfl (hb hby at_113) ?_
    show Steps p.tables e below (T4.setTop (mkF m 114 #[.val (.long q0), .second, .val (.long q1), .second, .val (.long q2), .second, .val (.long q3), .second, .val (.int p4), .val (.int (1 : Int32)), .val (.ref b1), .val (.double (FP.ddiv (FP.l2d q0) 4696837146684686336)), .second, .val (.long q0), .second] [(.int (3 : Int32)), (.int (1 : Int32))])) _
    refine XS.icmpYes X4.here hx rfl (pc0 := 114) (pc' := 126) rfl (hb hby at_114) rfl (tlt (by decide : (1 : Int32) < (3 : Int32))).1 (by decide) (by decide) ?_
    show Steps p.tables e below (T4.setTop (mkF m 126 #[.val (.long q0), .second, .val (.long q1), .second, .val (.long q2), .second, .val (.long q3), .second, .val (.int p4), .val (.int (1 : Int32)), .val (.ref b1), .val (.double (FP.ddiv (FP.l2d q0) 4696837146684686336)), .second, .val (.long q0), .second] [])) _
    refine XS.iload X4.here hx rfl (hb hby at_126) rfl ?_
    show Steps p.tables e below (T4.setTop (mkF m 128 #[.val (.long q0), .second, .val (.long q1), .second, .val (.long q2), .second, .val (.long q3), .second, .val (.int p4), .val (.int (1 : Int32)), .val (.ref b1), .val (.double (FP.ddiv (FP.l2d q0) 4696837146684686336)), .second, .val (.long q0), .second] [(.int (1 : Int32))])) _
    refine XS.iconst X4.here hx rfl (hb hby at_128) ?_
    show Steps p.tables e below (T4.setTop (mkF m 129 #[.val (.long q0), .second, .val (.long q1), .second, .val (.long q2), .second, .val (.long q3), .second, .val (.int p4), .val (.int (1 : Int32)), .val (.ref b1), .val (.double (FP.ddiv (FP.l2d q0) 4696837146684686336)), .second, .val (.long q0), .second] [(.int (4 : Int32)), (.int (1 : Int32))])) _
    refine XS.icmpYes X4.here hx rfl (pc0 := 129) (pc' := 141) rfl (hb hby at_129) rfl (tlt (by decide : (1 : Int32) < (4 : Int32))).1 (by decide) (by decide) ?_
    show Steps p.tables e below (T4.setTop (mkF m 141 #[.val (.long q0), .second, .val (.long q1), .second, .val (.long q2), .second, .val (.long q3), .second, .val (.int p4), .val (.int (1 : Int32)), .val (.ref b1), .val (.double (FP.ddiv (FP.l2d q0) 4696837146684686336)), .second, .val (.long q0), .second] [])) _
    refine XS.dload X4.here hx rfl (hb hby at_141) rfl ?_
    show Steps p.tables e below (T4.setTop (mkF m 143 #[.val (.long q0), .second, .val (.long q1), .second, .val (.long q2), .second, .val (.long q3), .second, .val (.int p4), .val (.int (1 : Int32)), .val (.ref b1), .val (.double (FP.ddiv (FP.l2d q0) 4696837146684686336)), .second, .val (.long q0), .second] [(.double (FP.ddiv (FP.l2d q0) 4696837146684686336))])) _
    refine XS.lload X4.here hx rfl (hb hby at_143) rfl ?_
    show Steps p.tables e below (T4.setTop (mkF m 145 #[.val (.long q0), .second, .val (.long q1), .second, .val (.long q2), .second, .val (.long q3), .second, .val (.int p4), .val (.int (1 : Int32)), .val (.ref b1), .val (.double (FP.ddiv (FP.l2d q0) 4696837146684686336)), .second, .val (.long q0), .second] [(.long q0), (.double (FP.ddiv (FP.l2d q0) 4696837146684686336))])) _
    refine XS.l2dS X4.here hx rfl (hb hby at_145) rfl rfl ?_
    show Steps p.tables e below (T4.setTop (mkF m 146 #[.val (.long q0), .second, .val (.long q1), .second, .val (.long q2), .second, .val (.long q3), .second, .val (.int p4), .val (.int (1 : Int32)), .val (.ref b1), .val (.double (FP.ddiv (FP.l2d q0) 4696837146684686336)), .second, .val (.long q0), .second] [(.double (FP.l2d q0)), (.double (FP.ddiv (FP.l2d q0) 4696837146684686336))])) _
    refine X4.ldc2DoubleC hx hown (mvT hZ (hw _ (List.mem_of_getElem? (i := 63) rfl))) (g := (mkF m 146 #[.val (.long q0), .second, .val (.long q1), .second, .val (.long q2), .second, .val (.long q3), .second, .val (.int p4), .val (.int (1 : Int32)), .val (.ref b1), .val (.double (FP.ddiv (FP.l2d q0) 4696837146684686336)), .second, .val (.long q0), .second] [(.double (FP.l2d q0)), (.double (FP.ddiv (FP.l2d q0) 4696837146684686336))])) rfl (hb hby at_146) _ ?_
    show Steps p.tables e below (T4.setTop (mkF m 149 #[.val (.long q0), .second, .val (.long q1), .second, .val (.long q2), .second, .val (.long q3), .second, .val (.int p4), .val (.int (1 : Int32)), .val (.ref b1), .val (.double (FP.ddiv (FP.l2d q0) 4696837146684686336)), .second, .val (.long q0), .second] [(.double 4696837146684686336), (.double (FP.l2d q0)), (.double (FP.ddiv (FP.l2d q0) 4696837146684686336))])) _
    refine XS.ddivS X4.here hx rfl (hb hby at_149) rfl (own_nn _) rfl ?_
    show Steps p.tables e below (T4.setTop (mkF m 150 #[.val (.long q0), .second, .val (.long q1), .second, .val (.long q2), .second, .val (.long q3), .second, .val (.int p4), .val (.int (1 : Int32)), .val (.ref b1), .val (.double (FP.ddiv (FP.l2d q0) 4696837146684686336)), .second, .val (.long q0), .second] [(.double (FP.ddiv (FP.l2d q0) 4696837146684686336)), (.double (FP.ddiv (FP.l2d q0) 4696837146684686336))])) _
    refine XS.dcmpS X4.here hx rfl (hb hby at_150) rfl (v := (0 : Int32)) (dcmpV_self (own_nn _) .l) ?_
    show Steps p.tables e below (T4.setTop (mkF m 151 #[.val (.long q0), .second, .val (.long q1), .second, .val (.long q2), .second, .val (.long q3), .second, .val (.int p4), .val (.int (1 : Int32)), .val (.ref b1), .val (.double (FP.ddiv (FP.l2d q0) 4696837146684686336)), .second, .val (.long q0), .second] [(.int (0 : Int32))])) _
    refine XS.ifNo X4.here hx rfl (hb hby at_151) rfl ((if0 _ _).trans (teq (rfl : (0 : Int32) = (0 : Int32))).2) ?_
    show Steps p.tables e below (T4.setTop (mkF m 154 #[.val (.long q0), .second, .val (.long q1), .second, .val (.long q2), .second, .val (.long q3), .second, .val (.int p4), .val (.int (1 : Int32)), .val (.ref b1), .val (.double (FP.ddiv (FP.l2d q0) 4696837146684686336)), .second, .val (.long q0), .second] [])) _
    refine XS.iconst X4.here hx rfl (hb hby at_154) ?_
    show Steps p.tables e below (T4.setTop (mkF m 155 #[.val (.long q0), .second, .val (.long q1), .second, .val (.long q2), .second, .val (.long q3), .second, .val (.int p4), .val (.int (1 : Int32)), .val (.ref b1), .val (.double (FP.ddiv (FP.l2d q0) 4696837146684686336)), .second, .val (.long q0), .second] [(.int (1 : Int32))])) _
    refine XS.goto X4.here hx rfl (pc0 := 155) (pc' := 159) rfl (hb hby at_155) (by decide) (by decide) ?_
    show Steps p.tables e below (T4.setTop (mkF m 159 #[.val (.long q0), .second, .val (.long q1), .second, .val (.long q2), .second, .val (.long q3), .second, .val (.int p4), .val (.int (1 : Int32)), .val (.ref b1), .val (.double (FP.ddiv (FP.l2d q0) 4696837146684686336)), .second, .val (.long q0), .second] [(.int (1 : Int32))])) _
    exact retN X4 hx (t := .boolean) Bd.returns (by simp) (hb hby at_159) hr
  · show Q_rm0_1 Z q0 q1 q2 q3 p4 h0 n0 _ T4.heap _
    exact ⟨rfl, N4⟩
theorem pd_10 : parseMethodDescriptor "(JJ)J" = some ⟨[.long, .long], some .long⟩ := by decide +kernel
def Q_rm0_2 (Z : State) (q0 : Int64) (q1 : Int64) (q2 : Int64) (q3 : Int64) (p4 : Int32) (h0 : Heap) (n0 : Nat) (v : Option Value) (h : Heap) (L : List Loc) : Prop := v = some (.int (1 : Int32)) ∧ Fr n0 L
theorem ef_rm0_2 (m : MethodId) (q0 : Int64) (q1 : Int64) (q2 : Int64) (q3 : Int64) (p4 : Int32) : entryFrame m #[(.long q0), (.long q1), (.long q2), (.long q3), (.int p4)] maxLocals = mkF m 0 #[.val (.long q0), .second, .val (.long q1), .second, .val (.long q2), .second, .val (.long q3), .second, .val (.int p4), .unset, .unset, .unset, .unset, .unset, .unset] [] := by first | (simp [entryFrame, mkF, argsToLocals, Value.category, maxLocals]; done) | rfl
set_option maxRecDepth 65536 in
set_option maxHeartbeats 40000000 in
theorem rm0_2 (l : Launch) (Z : State) (a0 : Array Value) (hw : ∀ d ∈ tables_1, d.before a0 Z = true) (ws : List Jvm.Cond) (q0 : Int64) (q1 : Int64) (q2 : Int64) (q3 : Int64) (p4 : Int32) (h0 : Heap) (n0 : Nat) (Z0 : n0 ≤ h0.size) (hn : ((p4 &&& (2147483647 : Int32)) % (5 : Int32)) = (2 : Int32)) :
    MetFree l x (head1 (Jvm.Cond.code x code maxLocals ret :: ws) room_1) (fun a U => a = #[(.long q0), (.long q1), (.long q2), (.long q3), (.int p4)] ∧ Z.Warmed39 U.vm ∧ U.heap = h0) (fun _ _ _ _ _ => True) (fun _ U o U' => ∃ v L, o = .returned v ∧ Q_rm0_2 Z q0 q1 q2 q3 p4 h0 n0 v U'.heap L ∧ FrameEnd U o U' L room_1.cells room_1.slots) := by
  refine MetFree.of_bodySF (plainFor_of_name pn_4) hisR ?_
  intro p e s m args below meth c s₁ Bd hml0 hP hK
  obtain ⟨rfl, hZ, hh⟩ := hP
  have hx := Bd.exec
  have hby := Bd.bytes
  have hml : c.maxLocals = 15 := hml0
  have hown : s.vm.findClass "com/example/tolc/tolc/RecentResponseTimesAddPinLaw" = some m.cls := findClass_of_methodNamed Bd.named
  have hnm := (name_of_methodNamed Bd.named Bd.method).1
  have X0 : Stand p l e room_1 s m #[(.long q0), (.long q1), (.long q2), (.long q3), (.int p4)] below meth c s₁ [] 0 0 := Stand.of_body Bd
  have e0 : s₁.heap = h0 := by rw [← hh, Bd.state]; rfl
  have N0 := Fr.nil n0
  have pre0 : ∀ t, Steps p.tables e below (s₁.setTop (mkF m 0 #[.val (.long q0), .second, .val (.long q1), .second, .val (.long q2), .second, .val (.long q3), .second, .val (.int p4), .unset, .unset, .unset, .unset, .unset, .unset] [])) t → Steps p.tables e below (s₁.setTop (entryFrame m #[(.long q0), (.long q1), (.long q2), (.long q3), (.int p4)] maxLocals)) t := fun t k => castTop (ef_rm0_2 m q0 q1 q2 q3 p4) k
  obtain ⟨T1, h1, X1, e1, E1, A1, D1, -, st1⟩ := newO X0 hx hZ hown (hw _ (List.mem_of_getElem? (i := 1) rfl)) (hw _ (List.mem_of_getElem? (i := 2) rfl)) (hw _ (List.mem_of_getElem? (i := 3) rfl)) e0 (g := (mkF m 9 #[.val (.long q0), .second, .val (.long q1), .second, .val (.long q2), .second, .val (.long q3), .second, .val (.int p4), .val (.int (2 : Int32)), .unset, .unset, .unset, .unset, .unset] [])) rfl (hb hby at_9) (by decide) (by decide)
  obtain ⟨b1, g1⟩ : ∃ z, z = h0.size := ⟨_, rfl⟩
  rw [← g1] at A1 D1 st1
  have F1_1 : Fld Z h1 b1 "com/example/tolc/tolc/RecentResponseTimes" "nanos" "[J" .null := D1 (Or.inr (hw _ (List.mem_of_getElem? (i := 12) rfl))) (ty := (.array .long)) (by decide)
  have F1_2 : Fld Z h1 b1 "com/example/tolc/tolc/RecentResponseTimes" "next" "I" (.int (0 : Int32)) := D1 (Or.inl (hw _ (List.mem_of_getElem? (i := 19) rfl))) (ty := .int) (by decide)
  have F1_3 : Fld Z h1 b1 "com/example/tolc/tolc/RecentResponseTimes" "size" "I" (.int (0 : Int32)) := D1 (Or.inl (hw _ (List.mem_of_getElem? (i := 21) rfl))) (ty := .int) (by decide)
  obtain ⟨_, _, ⟨T2, L2, k2, n2⟩, -, X2, ⟨Lc2, hQ2, l2, y2, z2⟩, st2⟩ := X1.specialBack hx (y := (⟨"com/example/tolc/tolc/RecentResponseTimes", "<init>", "()V"⟩ : MethodName)) rfl hown (mvT hZ (hw _ (List.mem_of_getElem? (i := 4) rfl))) (mvT hZ (hw _ (List.mem_of_getElem? (i := 5) rfl))) (mvT hZ (hw _ (List.mem_of_getElem? (i := 6) rfl))) (by decide) (backOf (W := 1) (rmI l Z a0 hw [] b1 .null h1 n0 (Nat.le_trans Z0 E1.1) F1_2 F1_3 F1_1 A1 (Nat.le_trans Z0 (Nat.le_of_eq g1.symm))) hZ (hw _ (List.mem_of_getElem? (i := 6) rfl)) (hw _ (List.mem_of_getElem? (i := 3) rfl)) (by decide) (by decide)) (g := (mkF m 13 #[.val (.long q0), .second, .val (.long q1), .second, .val (.long q2), .second, .val (.long q3), .second, .val (.int p4), .val (.int (2 : Int32)), .unset, .unset, .unset, .unset, .unset] [(.ref b1), (.ref b1)])) rfl (by rw [hml]; rfl) (Steps.refl _) (a := b1) (argsL := []) (rest := [(.ref b1)]) (lenOf pd_7 rfl) rfl (by show 2 * 0 + _ ≤ _; exact Nat.le_of_eq rfl) (hb hby at_13) (fun _ _ => ⟨rfl, e1, (by decide : 1 + 1 ≤ _), (by decide : 3 + 100 ≤ _)⟩)
  dsimp only [Pt.U, Pt.locs, Pt.cells, Pt.slots] at X2 l2 y2 z2 st2 hQ2
  subst l2 y2 z2
  obtain ⟨na_2, ka_2, rfl, Nq2, gb2_0, Kp2, Fq2_0, Fq2_1, Fq2_2, Fq2_3, Fq2_4⟩ := hQ2
  have N2 := Fr.app N0 Nq2
  obtain ⟨cq3, kq3, q3a, q3b, q3c⟩ := isOf hZ rfl Fq2_0
  obtain ⟨_, _, ⟨T3, L3, k3, n3⟩, -, X3, ⟨Lc3, hQ3, l3, y3, z3⟩, st3⟩ := X2.virtualBack hx (y := (⟨"com/example/tolc/tolc/RecentResponseTimes", "add", "(J)V"⟩ : MethodName)) (z := (⟨"com/example/tolc/tolc/RecentResponseTimes", "add", "(J)V"⟩ : MethodName)) hown (mvT hZ (hw _ (List.mem_of_getElem? (i := 13) rfl))) (mvT hZ (hw _ (List.mem_of_getElem? (i := 14) rfl))) (notFace_of_selects (args := #[]) (mvT hZ (hw _ (List.mem_of_getElem? (i := 16) rfl)))) (mvT hZ (hw _ (List.mem_of_getElem? (i := 16) rfl))) (mvT hZ (hw _ (List.mem_of_getElem? (i := 15) rfl))) (by decide) (backOf (W := 0) (rmA0 l Z a0 hw [] b1 q0 na_2 ka_2 (0 : Int64) (0 : Int64) (0 : Int64) (0 : Int64) T2.heap n0 (Nat.le_trans (Nat.le_trans Z0 E1.1) Kp2.1) Fq2_0 Fq2_1 Fq2_2 Fq2_3 Fq2_4 (Nat.le_trans (Nat.le_trans Z0 E1.1) gb2_0) (Nat.ne_of_lt (Nat.lt_of_lt_of_le A1.lt gb2_0)) (Nat.le_trans Z0 (Nat.le_of_eq g1.symm))) hZ (hw _ (List.mem_of_getElem? (i := 17) rfl)) (hw _ (List.mem_of_getElem? (i := 3) rfl)) (by decide) (by decide)) q3a q3c (g := (mkF m 27 #[.val (.long q0), .second, .val (.long q1), .second, .val (.long q2), .second, .val (.long q3), .second, .val (.int p4), .val (.int (2 : Int32)), .val (.ref b1), .unset, .unset, .unset, .unset] [(.long q0), (.ref b1)])) rfl (by rw [hml]; rfl) (Steps.refl _) (argsL := [(.long q0)]) (rest := []) (lenOf pd_9 rfl) rfl (by show 2 * 0 + _ ≤ _; exact Nat.le_of_eq rfl) (hb hby at_27) (fun _ _ => ⟨rfl, rfl, (by decide : 2 + 0 ≤ _), (by decide : 103 + 0 ≤ _)⟩)
  dsimp only [Pt.U, Pt.locs, Pt.cells, Pt.slots] at X3 l3 y3 z3 st3 hQ3
  subst l3 y3 z3
  obtain ⟨rfl, Nq3, Kp3, Fq3_0, Fq3_1, Fq3_2, Fq3_3, Fq3_4⟩ := hQ3
  have N3 := Fr.app N2 Nq3
  obtain ⟨cq4, kq4, q4a, q4b, q4c⟩ := isOf hZ rfl Fq3_0
  obtain ⟨_, _, ⟨T4, L4, k4, n4⟩, -, X4, ⟨Lc4, hQ4, l4, y4, z4⟩, st4⟩ := X3.virtualBack hx (y := (⟨"com/example/tolc/tolc/RecentResponseTimes", "add", "(J)V"⟩ : MethodName)) (z := (⟨"com/example/tolc/tolc/RecentResponseTimes", "add", "(J)V"⟩ : MethodName)) hown (mvT hZ (hw _ (List.mem_of_getElem? (i := 13) rfl))) (mvT hZ (hw _ (List.mem_of_getElem? (i := 14) rfl))) (notFace_of_selects (args := #[]) (mvT hZ (hw _ (List.mem_of_getElem? (i := 16) rfl)))) (mvT hZ (hw _ (List.mem_of_getElem? (i := 16) rfl))) (mvT hZ (hw _ (List.mem_of_getElem? (i := 15) rfl))) (by decide) (backOf (W := 0) (rmA1 l Z a0 hw [] b1 q1 na_2 ka_2 q0 (0 : Int64) (0 : Int64) (0 : Int64) T3.heap n0 (Nat.le_trans (Nat.le_trans (Nat.le_trans Z0 E1.1) Kp2.1) Kp3.1) Fq3_0 Fq3_1 Fq3_2 Fq3_3 Fq3_4 (Nat.le_trans (Nat.le_trans Z0 E1.1) gb2_0) (Nat.ne_of_lt (Nat.lt_of_lt_of_le A1.lt gb2_0)) (Nat.le_trans Z0 (Nat.le_of_eq g1.symm))) hZ (hw _ (List.mem_of_getElem? (i := 17) rfl)) (hw _ (List.mem_of_getElem? (i := 3) rfl)) (by decide) (by decide)) q4a q4c (g := (mkF m 39 #[.val (.long q0), .second, .val (.long q1), .second, .val (.long q2), .second, .val (.long q3), .second, .val (.int p4), .val (.int (2 : Int32)), .val (.ref b1), .unset, .unset, .unset, .unset] [(.long q1), (.ref b1)])) rfl (by rw [hml]; rfl) (Steps.refl _) (argsL := [(.long q1)]) (rest := []) (lenOf pd_9 rfl) rfl (by show 2 * 0 + _ ≤ _; exact Nat.le_of_eq rfl) (hb hby at_39) (fun _ _ => ⟨rfl, rfl, (by decide : 2 + 0 ≤ _), (by decide : 103 + 0 ≤ _)⟩)
  dsimp only [Pt.U, Pt.locs, Pt.cells, Pt.slots] at X4 l4 y4 z4 st4 hQ4
  subst l4 y4 z4
  obtain ⟨rfl, Nq4, Kp4, Fq4_0, Fq4_1, Fq4_2, Fq4_3, Fq4_4⟩ := hQ4
  have N4 := Fr.app N3 Nq4
  obtain ⟨cq5, kq5, q5a, q5b, q5c⟩ := isOf hZ rfl Fq4_0
  obtain ⟨_, _, ⟨T5, L5, k5, n5⟩, -, X5, ⟨Lc5, hQ5, l5, y5, z5⟩, st5⟩ := X4.virtualBack hx (y := (⟨"com/example/tolc/tolc/RecentResponseTimes", "p90Millis", "()D"⟩ : MethodName)) (z := (⟨"com/example/tolc/tolc/RecentResponseTimes", "p90Millis", "()D"⟩ : MethodName)) hown (mvT hZ (hw _ (List.mem_of_getElem? (i := 26) rfl))) (mvT hZ (hw _ (List.mem_of_getElem? (i := 27) rfl))) (notFace_of_selects (args := #[]) (mvT hZ (hw _ (List.mem_of_getElem? (i := 29) rfl)))) (mvT hZ (hw _ (List.mem_of_getElem? (i := 29) rfl))) (mvT hZ (hw _ (List.mem_of_getElem? (i := 28) rfl))) (by decide) (backOf (W := 0) (rmP2 l Z a0 hw [] b1 na_2 ka_2 q0 q1 (0 : Int64) (0 : Int64) T4.heap n0 (Nat.le_trans (Nat.le_trans (Nat.le_trans (Nat.le_trans Z0 E1.1) Kp2.1) Kp3.1) Kp4.1) Fq4_0 Fq4_1 Fq4_3 Fq4_4) hZ (hw _ (List.mem_of_getElem? (i := 30) rfl)) (hw _ (List.mem_of_getElem? (i := 3) rfl)) (by decide) (by decide)) q5a q5c (g := (mkF m 70 #[.val (.long q0), .second, .val (.long q1), .second, .val (.long q2), .second, .val (.long q3), .second, .val (.int p4), .val (.int (2 : Int32)), .val (.ref b1), .unset, .unset, .unset, .unset] [(.ref b1)])) rfl (by rw [hml]; rfl) (Steps.refl _) (argsL := []) (rest := []) (lenOf pd_8 rfl) rfl (by show 2 * 0 + _ ≤ _; exact Nat.le_of_eq rfl) (hb hby at_70) (fun _ _ => ⟨rfl, rfl, (by decide : 2 + 1 ≤ _), (by decide : 103 + 2 ≤ _)⟩)
  dsimp only [Pt.U, Pt.locs, Pt.cells, Pt.slots] at X5 l5 y5 z5 st5 hQ5
  subst l5 y5 z5
  obtain ⟨rfl, Nq5, Kp5⟩ := hQ5
  have N5 := Fr.app N4 Nq5
  obtain ⟨_, _, ⟨T6, L6, k6, n6⟩, -, X6, ⟨Lc6, hQ6, l6, y6, z6⟩, st6⟩ := Jvm.LawKit.callS X5 hx (y := (⟨"java/lang/Math", "max", "(JJ)J"⟩ : MethodName)) hown (mvT hZ (hw _ (List.mem_of_getElem? (i := 60) rfl))) (mvT hZ (hw _ (List.mem_of_getElem? (i := 61) rfl))) (mvT hZ (hw _ (List.mem_of_getElem? (i := 24) rfl))) (mvT hZ (hw _ (List.mem_of_getElem? (i := 62) rfl))) (by decide) (backOf (W := 0) (rmaxL l Z a0 hw [] q0 q1 T5.heap n0 (Nat.le_trans (Nat.le_trans (Nat.le_trans (Nat.le_trans (Nat.le_trans Z0 E1.1) Kp2.1) Kp3.1) Kp4.1) Kp5.1)) hZ (hw _ (List.mem_of_getElem? (i := 62) rfl)) (hw _ (List.mem_of_getElem? (i := 24) rfl)) (by decide) (by decide)) (g := (mkF m 106 #[.val (.long q0), .second, .val (.long q1), .second, .val (.long q2), .second, .val (.long q3), .second, .val (.int p4), .val (.int (2 : Int32)), .val (.ref b1), .val (.double (FP.ddiv (FP.l2d (own_mx q0 q1)) 4696837146684686336)), .second, .val (.long q0), .second] [(.long q1), (.long q0)])) rfl (by rw [hml]; rfl) (argsL := [(.long q0), (.long q1)]) (rest := []) (lenOf pd_10 rfl) rfl (by show 2 * 0 + _ ≤ _; exact Nat.le_of_eq rfl) (hb hby at_106) (fun _ _ => ⟨rfl, rfl, (by decide : 3 + 0 ≤ _), (by decide : 105 + 0 ≤ _)⟩)
  dsimp only [Pt.U, Pt.locs, Pt.cells, Pt.slots] at X6 l6 y6 z6 st6 hQ6
  subst l6 y6 z6
  obtain ⟨rfl, Nq6, e6⟩ := hQ6
  have N6 := Fr.app N5 Nq6
  obtain ⟨fs, hr, hrun, hended, hW, hsame⟩ := X6.leave (v := some (.int (1 : Int32))) (fun h => by rw [Bd.returns] at h; cases h)
  refine ⟨_, _, pre0 _ ?_, hrun, hended, _, _, rfl, ?_, ⟨_, rfl⟩, hW, hsame.mono (by decide) (by decide)⟩
  · show Steps p.tables e below (s₁.setTop (mkF m 0 #[.val (.long q0), .second, .val (.long q1), .second, .val (.long q2), .second, .val (.long q3), .second, .val (.int p4), .unset, .unset, .unset, .unset, .unset, .unset] [])) _
    refine XS.iload X0.here hx rfl (hb hby at_0) rfl ?_
    show Steps p.tables e below (s₁.setTop (mkF m 2 #[.val (.long q0), .second, .val (.long q1), .second, .val (.long q2), .second, .val (.long q3), .second, .val (.int p4), .unset, .unset, .unset, .unset, .unset, .unset] [(.int p4)])) _
    refine X0.ldcInt hx hown (mvT hZ (hw _ (List.mem_of_getElem? (i := 0) rfl))) (g := (mkF m 2 #[.val (.long q0), .second, .val (.long q1), .second, .val (.long q2), .second, .val (.long q3), .second, .val (.int p4), .unset, .unset, .unset, .unset, .unset, .unset] [(.int p4)])) rfl (hb hby at_2) _ ?_
    show Steps p.tables e below (s₁.setTop (mkF m 4 #[.val (.long q0), .second, .val (.long q1), .second, .val (.long q2), .second, .val (.long q3), .second, .val (.int p4), .unset, .unset, .unset, .unset, .unset, .unset] [(.int (2147483647 : Int32)), (.int p4)])) _
    refine XS.iand X0.here hx rfl (hb hby at_4) rfl ?_
    show Steps p.tables e below (s₁.setTop (mkF m 5 #[.val (.long q0), .second, .val (.long q1), .second, .val (.long q2), .second, .val (.long q3), .second, .val (.int p4), .unset, .unset, .unset, .unset, .unset, .unset] [(.int (p4 &&& (2147483647 : Int32)))])) _
    refine XS.iconst X0.here hx rfl (hb hby at_5) ?_
    show Steps p.tables e below (s₁.setTop (mkF m 6 #[.val (.long q0), .second, .val (.long q1), .second, .val (.long q2), .second, .val (.long q3), .second, .val (.int p4), .unset, .unset, .unset, .unset, .unset, .unset] [(.int (5 : Int32)), (.int (p4 &&& (2147483647 : Int32)))])) _
    refine iremM X0 hx (g := (mkF m 6 #[.val (.long q0), .second, .val (.long q1), .second, .val (.long q2), .second, .val (.long q3), .second, .val (.int p4), .unset, .unset, .unset, .unset, .unset, .unset] [(.int (5 : Int32)), (.int (p4 &&& (2147483647 : Int32)))])) rfl (hb hby at_6) rfl (by decide) ?_
    show Steps p.tables e below (s₁.setTop (mkF m 7 #[.val (.long q0), .second, .val (.long q1), .second, .val (.long q2), .second, .val (.long q3), .second, .val (.int p4), .unset, .unset, .unset, .unset, .unset, .unset] [(.int ((p4 &&& (2147483647 : Int32)) % (5 : Int32)))])) _
    rw [hn]
    show Steps p.tables e below (s₁.setTop (mkF m 7 #[.val (.long q0), .second, .val (.long q1), .second, .val (.long q2), .second, .val (.long q3), .second, .val (.int p4), .unset, .unset, .unset, .unset, .unset, .unset] [(.int (2 : Int32))])) _
    refine XS.istore X0.here hx rfl (hb hby at_7) rfl (l' := #[.val (.long q0), .second, .val (.long q1), .second, .val (.long q2), .second, .val (.long q3), .second, .val (.int p4), .val (.int (2 : Int32)), .unset, .unset, .unset, .unset, .unset]) rfl ?_
    show Steps p.tables e below (s₁.setTop (mkF m 9 #[.val (.long q0), .second, .val (.long q1), .second, .val (.long q2), .second, .val (.long q3), .second, .val (.int p4), .val (.int (2 : Int32)), .unset, .unset, .unset, .unset, .unset] [])) _
    refine st1 _ ?_
    show Steps p.tables e below (T1.setTop (mkF m 12 #[.val (.long q0), .second, .val (.long q1), .second, .val (.long q2), .second, .val (.long q3), .second, .val (.int p4), .val (.int (2 : Int32)), .unset, .unset, .unset, .unset, .unset] [(.ref b1)])) _
    refine XS.dup X1.here hx rfl (hb hby at_12) rfl rfl ?_
    show Steps p.tables e below (T1.setTop (mkF m 13 #[.val (.long q0), .second, .val (.long q1), .second, .val (.long q2), .second, .val (.long q3), .second, .val (.int p4), .val (.int (2 : Int32)), .unset, .unset, .unset, .unset, .unset] [(.ref b1), (.ref b1)])) _
    refine st2.trans ?_
    show Steps p.tables e below (T2.setTop (mkF m 16 #[.val (.long q0), .second, .val (.long q1), .second, .val (.long q2), .second, .val (.long q3), .second, .val (.int p4), .val (.int (2 : Int32)), .unset, .unset, .unset, .unset, .unset] [(.ref b1)])) _
    refine XS.astore X2.here hx rfl (hb hby at_16) rfl rfl (l' := #[.val (.long q0), .second, .val (.long q1), .second, .val (.long q2), .second, .val (.long q3), .second, .val (.int p4), .val (.int (2 : Int32)), .val (.ref b1), .unset, .unset, .unset, .unset]) rfl ?_
    show Steps p.tables e below (T2.setTop (mkF m 18 #[.val (.long q0), .second, .val (.long q1), .second, .val (.long q2), .second, .val (.long q3), .second, .val (.int p4), .val (.int (2 : Int32)), .val (.ref b1), .unset, .unset, .unset, .unset] [])) _
    refine XS.iload X2.here hx rfl (hb hby at_18) rfl ?_
    show Steps p.tables e below (T2.setTop (mkF m 20 #[.val (.long q0), .second, .val (.long q1), .second, .val (.long q2), .second, .val (.long q3), .second, .val (.int p4), .val (.int (2 : Int32)), .val (.ref b1), .unset, .unset, .unset, .unset] [(.int (2 : Int32))])) _
    refine XS.iconst X2.here hx rfl (hb hby at_20) ?_
    show Steps p.tables e below (T2.setTop (mkF m 21 #[.val (.long q0), .second, .val (.long q1), .second, .val (.long q2), .second, .val (.long q3), .second, .val (.int p4), .val (.int (2 : Int32)), .val (.ref b1), .unset, .unset, .unset, .unset] [(.int (1 : Int32)), (.int (2 : Int32))])) _
    refine XS.icmpNo X2.here hx rfl (hb hby at_21) rfl (flt (by decide : ¬ ((2 : Int32) < (1 : Int32)))).1 ?_
    show Steps p.tables e below (T2.setTop (mkF m 24 #[.val (.long q0), .second, .val (.long q1), .second, .val (.long q2), .second, .val (.long q3), .second, .val (.int p4), .val (.int (2 : Int32)), .val (.ref b1), .unset, .unset, .unset, .unset] [])) _
    refine XS.aload X2.here hx rfl (hb hby at_24) rfl rfl ?_
    show Steps p.tables e below (T2.setTop (mkF m 26 #[.val (.long q0), .second, .val (.long q1), .second, .val (.long q2), .second, .val (.long q3), .second, .val (.int p4), .val (.int (2 : Int32)), .val (.ref b1), .unset, .unset, .unset, .unset] [(.ref b1)])) _
    refine XS.lloadN X2.here hx rfl (hb hby at_26) rfl ?_
    show Steps p.tables e below (T2.setTop (mkF m 27 #[.val (.long q0), .second, .val (.long q1), .second, .val (.long q2), .second, .val (.long q3), .second, .val (.int p4), .val (.int (2 : Int32)), .val (.ref b1), .unset, .unset, .unset, .unset] [(.long q0), (.ref b1)])) _
    refine st3.trans ?_
    show Steps p.tables e below (T3.setTop (mkF m 30 #[.val (.long q0), .second, .val (.long q1), .second, .val (.long q2), .second, .val (.long q3), .second, .val (.int p4), .val (.int (2 : Int32)), .val (.ref b1), .unset, .unset, .unset, .unset] [])) _
    refine XS.iload X3.here hx rfl (hb hby at_30) rfl ?_
    show Steps p.tables e below (T3.setTop (mkF m 32 #[.val (.long q0), .second, .val (.long q1), .second, .val (.long q2), .second, .val (.long q3), .second, .val (.int p4), .val (.int (2 : Int32)), .val (.ref b1), .unset, .unset, .unset, .unset] [(.int (2 : Int32))])) _
    refine XS.iconst X3.here hx rfl (hb hby at_32) ?_
    show Steps p.tables e below (T3.setTop (mkF m 33 #[.val (.long q0), .second, .val (.long q1), .second, .val (.long q2), .second, .val (.long q3), .second, .val (.int p4), .val (.int (2 : Int32)), .val (.ref b1), .unset, .unset, .unset, .unset] [(.int (2 : Int32)), (.int (2 : Int32))])) _
    refine XS.icmpNo X3.here hx rfl (hb hby at_33) rfl (flt (by decide : ¬ ((2 : Int32) < (2 : Int32)))).1 ?_
    show Steps p.tables e below (T3.setTop (mkF m 36 #[.val (.long q0), .second, .val (.long q1), .second, .val (.long q2), .second, .val (.long q3), .second, .val (.int p4), .val (.int (2 : Int32)), .val (.ref b1), .unset, .unset, .unset, .unset] [])) _
    refine XS.aload X3.here hx rfl (hb hby at_36) rfl rfl ?_
    show Steps p.tables e below (T3.setTop (mkF m 38 #[.val (.long q0), .second, .val (.long q1), .second, .val (.long q2), .second, .val (.long q3), .second, .val (.int p4), .val (.int (2 : Int32)), .val (.ref b1), .unset, .unset, .unset, .unset] [(.ref b1)])) _
    refine XS.lloadN X3.here hx rfl (hb hby at_38) rfl ?_
    show Steps p.tables e below (T3.setTop (mkF m 39 #[.val (.long q0), .second, .val (.long q1), .second, .val (.long q2), .second, .val (.long q3), .second, .val (.int p4), .val (.int (2 : Int32)), .val (.ref b1), .unset, .unset, .unset, .unset] [(.long q1), (.ref b1)])) _
    refine st4.trans ?_
    show Steps p.tables e below (T4.setTop (mkF m 42 #[.val (.long q0), .second, .val (.long q1), .second, .val (.long q2), .second, .val (.long q3), .second, .val (.int p4), .val (.int (2 : Int32)), .val (.ref b1), .unset, .unset, .unset, .unset] [])) _
    refine XS.iload X4.here hx rfl (hb hby at_42) rfl ?_
    show Steps p.tables e below (T4.setTop (mkF m 44 #[.val (.long q0), .second, .val (.long q1), .second, .val (.long q2), .second, .val (.long q3), .second, .val (.int p4), .val (.int (2 : Int32)), .val (.ref b1), .unset, .unset, .unset, .unset] [(.int (2 : Int32))])) _
    refine XS.iconst X4.here hx rfl (hb hby at_44) ?_
    show Steps p.tables e below (T4.setTop (mkF m 45 #[.val (.long q0), .second, .val (.long q1), .second, .val (.long q2), .second, .val (.long q3), .second, .val (.int p4), .val (.int (2 : Int32)), .val (.ref b1), .unset, .unset, .unset, .unset] [(.int (3 : Int32)), (.int (2 : Int32))])) _
    refine XS.icmpYes X4.here hx rfl (pc0 := 45) (pc' := 55) rfl (hb hby at_45) rfl (tlt (by decide : (2 : Int32) < (3 : Int32))).1 (by decide) (by decide) ?_
    show Steps p.tables e below (T4.setTop (mkF m 55 #[.val (.long q0), .second, .val (.long q1), .second, .val (.long q2), .second, .val (.long q3), .second, .val (.int p4), .val (.int (2 : Int32)), .val (.ref b1), .unset, .unset, .unset, .unset] [])) _
    refine XS.iload X4.here hx rfl (hb hby at_55) rfl ?_
    show Steps p.tables e below (T4.setTop (mkF m 57 #[.val (.long q0), .second, .val (.long q1), .second, .val (.long q2), .second, .val (.long q3), .second, .val (.int p4), .val (.int (2 : Int32)), .val (.ref b1), .unset, .unset, .unset, .unset] [(.int (2 : Int32))])) _
    refine XS.iconst X4.here hx rfl (hb hby at_57) ?_
    show Steps p.tables e below (T4.setTop (mkF m 58 #[.val (.long q0), .second, .val (.long q1), .second, .val (.long q2), .second, .val (.long q3), .second, .val (.int p4), .val (.int (2 : Int32)), .val (.ref b1), .unset, .unset, .unset, .unset] [(.int (4 : Int32)), (.int (2 : Int32))])) _
    refine XS.icmpYes X4.here hx rfl (pc0 := 58) (pc' := 68) rfl (hb hby at_58) rfl (tlt (by decide : (2 : Int32) < (4 : Int32))).1 (by decide) (by decide) ?_
    show Steps p.tables e below (T4.setTop (mkF m 68 #[.val (.long q0), .second, .val (.long q1), .second, .val (.long q2), .second, .val (.long q3), .second, .val (.int p4), .val (.int (2 : Int32)), .val (.ref b1), .unset, .unset, .unset, .unset] [])) _
    refine XS.aload X4.here hx rfl (hb hby at_68) rfl rfl ?_
    show Steps p.tables e below (T4.setTop (mkF m 70 #[.val (.long q0), .second, .val (.long q1), .second, .val (.long q2), .second, .val (.long q3), .second, .val (.int p4), .val (.int (2 : Int32)), .val (.ref b1), .unset, .unset, .unset, .unset] [(.ref b1)])) _
    refine st5.trans ?_
    show Steps p.tables e below (T5.setTop (mkF m 73 #[.val (.long q0), .second, .val (.long q1), .second, .val (.long q2), .second, .val (.long q3), .second, .val (.int p4), .val (.int (2 : Int32)), .val (.ref b1), .unset, .unset, .unset, .unset] [(.double (FP.ddiv (FP.l2d (own_mx q0 q1)) 4696837146684686336))])) _
    refine XS.dstore X5.here hx rfl (hb hby at_73) rfl (l' := #[.val (.long q0), .second, .val (.long q1), .second, .val (.long q2), .second, .val (.long q3), .second, .val (.int p4), .val (.int (2 : Int32)), .val (.ref b1), .val (.double (FP.ddiv (FP.l2d (own_mx q0 q1)) 4696837146684686336)), .second, .unset, .unset]) rfl ?_
    show Steps p.tables e below (T5.setTop (mkF m 75 #[.val (.long q0), .second, .val (.long q1), .second, .val (.long q2), .second, .val (.long q3), .second, .val (.int p4), .val (.int (2 : Int32)), .val (.ref b1), .val (.double (FP.ddiv (FP.l2d (own_mx q0 q1)) 4696837146684686336)), .second, .unset, .unset] [])) _
    refine XS.iload X5.here hx rfl (hb hby at_75) rfl ?_
    show Steps p.tables e below (T5.setTop (mkF m 77 #[.val (.long q0), .second, .val (.long q1), .second, .val (.long q2), .second, .val (.long q3), .second, .val (.int p4), .val (.int (2 : Int32)), .val (.ref b1), .val (.double (FP.ddiv (FP.l2d (own_mx q0 q1)) 4696837146684686336)), .second, .unset, .unset] [(.int (2 : Int32))])) _
    refine XS.ifYes X5.here hx rfl (pc0 := 77) (pc' := 94) rfl (hb hby at_77) rfl ((if0 _ _).trans (feq (by decide : ¬ ((2 : Int32) = (0 : Int32)))).2) (by decide) (by decide) ?_
    show Steps p.tables e below (T5.setTop (mkF m 94 #[.val (.long q0), .second, .val (.long q1), .second, .val (.long q2), .second, .val (.long q3), .second, .val (.int p4), .val (.int (2 : Int32)), .val (.ref b1), .val (.double (FP.ddiv (FP.l2d (own_mx q0 q1)) 4696837146684686336)), .second, .unset, .unset] [])) _
    refine XS.lloadN X5.here hx rfl (hb hby at_94) rfl ?_
    show Steps p.tables e below (T5.setTop (mkF m 95 #[.val (.long q0), .second, .val (.long q1), .second, .val (.long q2), .second, .val (.long q3), .second, .val (.int p4), .val (.int (2 : Int32)), .val (.ref b1), .val (.double (FP.ddiv (FP.l2d (own_mx q0 q1)) 4696837146684686336)), .second, .unset, .unset] [(.long q0)])) _
    refine XS.lstore X5.here hx rfl (hb hby at_95) rfl (l' := #[.val (.long q0), .second, .val (.long q1), .second, .val (.long q2), .second, .val (.long q3), .second, .val (.int p4), .val (.int (2 : Int32)), .val (.ref b1), .val (.double (FP.ddiv (FP.l2d (own_mx q0 q1)) 4696837146684686336)), .second, .val (.long q0), .second]) rfl ?_
    show Steps p.tables e below (T5.setTop (mkF m 97 #[.val (.long q0), .second, .val (.long q1), .second, .val (.long q2), .second, .val (.long q3), .second, .val (.int p4), .val (.int (2 : Int32)), .val (.ref b1), .val (.double (FP.ddiv (FP.l2d (own_mx q0 q1)) 4696837146684686336)), .second, .val (.long q0), .second] [])) _
    refine XS.iload X5.here hx rfl (hb hby at_97) rfl ?_
    show Steps p.tables e below (T5.setTop (mkF m 99 #[.val (.long q0), .second, .val (.long q1), .second, .val (.long q2), .second, .val (.long q3), .second, .val (.int p4), .val (.int (2 : Int32)), .val (.ref b1), .val (.double (FP.ddiv (FP.l2d (own_mx q0 q1)) 4696837146684686336)), .second, .val (.long q0), .second] [(.int (2 : Int32))])) _
    refine XS.iconst X5.here hx rfl (hb hby at_99) ?_
    show Steps p.tables e below (T5.setTop (mkF m 100 #[.val (.long q0), .second, .val (.long q1), .second, .val (.long q2), .second, .val (.long q3), .second, .val (.int p4), .val (.int (2 : Int32)), .val (.ref b1), .val (.double (FP.ddiv (FP.l2d (own_mx q0 q1)) 4696837146684686336)), .second, .val (.long q0), .second] [(.int (2 : Int32)), (.int (2 : Int32))])) _
    refine XS.icmpNo X5.here hx rfl (hb hby at_100) rfl (flt (by decide : ¬ ((2 : Int32) < (2 : Int32)))).1 ?_
    show Steps p.tables e below (T5.setTop (mkF m 103 #[.val (.long q0), .second, .val (.long q1), .second, .val (.long q2), .second, .val (.long q3), .second, .val (.int p4), .val (.int (2 : Int32)), .val (.ref b1), .val (.double (FP.ddiv (FP.l2d (own_mx q0 q1)) 4696837146684686336)), .second, .val (.long q0), .second] [])) _
    refine XS.lload X5.here hx rfl (hb hby at_103) rfl ?_
    show Steps p.tables e below (T5.setTop (mkF m 105 #[.val (.long q0), .second, .val (.long q1), .second, .val (.long q2), .second, .val (.long q3), .second, .val (.int p4), .val (.int (2 : Int32)), .val (.ref b1), .val (.double (FP.ddiv (FP.l2d (own_mx q0 q1)) 4696837146684686336)), .second, .val (.long q0), .second] [(.long q0)])) _
    refine XS.lloadN X5.here hx rfl (hb hby at_105) rfl ?_
    show Steps p.tables e below (T5.setTop (mkF m 106 #[.val (.long q0), .second, .val (.long q1), .second, .val (.long q2), .second, .val (.long q3), .second, .val (.int p4), .val (.int (2 : Int32)), .val (.ref b1), .val (.double (FP.ddiv (FP.l2d (own_mx q0 q1)) 4696837146684686336)), .second, .val (.long q0), .second] [(.long q1), (.long q0)])) _
    refine st6 _ ?_
    show Steps p.tables e below (T6.setTop (mkF m 109 #[.val (.long q0), .second, .val (.long q1), .second, .val (.long q2), .second, .val (.long q3), .second, .val (.int p4), .val (.int (2 : Int32)), .val (.ref b1), .val (.double (FP.ddiv (FP.l2d (own_mx q0 q1)) 4696837146684686336)), .second, .val (.long q0), .second] [(.long (if (lcmpW q0 q1) < (0 : Int32) then q1 else q0))])) _
    rw [own_mx_eq _ _]
    show Steps p.tables e below (T6.setTop (mkF m 109 #[.val (.long q0), .second, .val (.long q1), .second, .val (.long q2), .second, .val (.long q3), .second, .val (.int p4), .val (.int (2 : Int32)), .val (.ref b1), .val (.double (FP.ddiv (FP.l2d (own_mx q0 q1)) 4696837146684686336)), .second, .val (.long q0), .second] [(.long (own_mx q0 q1))])) _
    refine XS.lstore X6.here hx rfl (hb hby at_109) rfl (l' := #[.val (.long q0), .second, .val (.long q1), .second, .val (.long q2), .second, .val (.long q3), .second, .val (.int p4), .val (.int (2 : Int32)), .val (.ref b1), .val (.double (FP.ddiv (FP.l2d (own_mx q0 q1)) 4696837146684686336)), .second, .val (.long (own_mx q0 q1)), .second]) rfl ?_
    show Steps p.tables e below (T6.setTop (mkF m 111 #[.val (.long q0), .second, .val (.long q1), .second, .val (.long q2), .second, .val (.long q3), .second, .val (.int p4), .val (.int (2 : Int32)), .val (.ref b1), .val (.double (FP.ddiv (FP.l2d (own_mx q0 q1)) 4696837146684686336)), .second, .val (.long (own_mx q0 q1)), .second] [])) _
    refine XS.iload X6.here hx rfl (hb hby at_111) rfl ?_
    show Steps p.tables e below (T6.setTop (mkF m 113 #[.val (.long q0), .second, .val (.long q1), .second, .val (.long q2), .second, .val (.long q3), .second, .val (.int p4), .val (.int (2 : Int32)), .val (.ref b1), .val (.double (FP.ddiv (FP.l2d (own_mx q0 q1)) 4696837146684686336)), .second, .val (.long (own_mx q0 q1)), .second] [(.int (2 : Int32))])) _
    refine XS.iconst X6.here hx rfl (hb hby at_113) ?_
    show Steps p.tables e below (T6.setTop (mkF m 114 #[.val (.long q0), .second, .val (.long q1), .second, .val (.long q2), .second, .val (.long q3), .second, .val (.int p4), .val (.int (2 : Int32)), .val (.ref b1), .val (.double (FP.ddiv (FP.l2d (own_mx q0 q1)) 4696837146684686336)), .second, .val (.long (own_mx q0 q1)), .second] [(.int (3 : Int32)), (.int (2 : Int32))])) _
    refine XS.icmpYes X6.here hx rfl (pc0 := 114) (pc' := 126) rfl (hb hby at_114) rfl (tlt (by decide : (2 : Int32) < (3 : Int32))).1 (by decide) (by decide) ?_
    show Steps p.tables e below (T6.setTop (mkF m 126 #[.val (.long q0), .second, .val (.long q1), .second, .val (.long q2), .second, .val (.long q3), .second, .val (.int p4), .val (.int (2 : Int32)), .val (.ref b1), .val (.double (FP.ddiv (FP.l2d (own_mx q0 q1)) 4696837146684686336)), .second, .val (.long (own_mx q0 q1)), .second] [])) _
    refine XS.iload X6.here hx rfl (hb hby at_126) rfl ?_
    show Steps p.tables e below (T6.setTop (mkF m 128 #[.val (.long q0), .second, .val (.long q1), .second, .val (.long q2), .second, .val (.long q3), .second, .val (.int p4), .val (.int (2 : Int32)), .val (.ref b1), .val (.double (FP.ddiv (FP.l2d (own_mx q0 q1)) 4696837146684686336)), .second, .val (.long (own_mx q0 q1)), .second] [(.int (2 : Int32))])) _
    refine XS.iconst X6.here hx rfl (hb hby at_128) ?_
    show Steps p.tables e below (T6.setTop (mkF m 129 #[.val (.long q0), .second, .val (.long q1), .second, .val (.long q2), .second, .val (.long q3), .second, .val (.int p4), .val (.int (2 : Int32)), .val (.ref b1), .val (.double (FP.ddiv (FP.l2d (own_mx q0 q1)) 4696837146684686336)), .second, .val (.long (own_mx q0 q1)), .second] [(.int (4 : Int32)), (.int (2 : Int32))])) _
    refine XS.icmpYes X6.here hx rfl (pc0 := 129) (pc' := 141) rfl (hb hby at_129) rfl (tlt (by decide : (2 : Int32) < (4 : Int32))).1 (by decide) (by decide) ?_
    show Steps p.tables e below (T6.setTop (mkF m 141 #[.val (.long q0), .second, .val (.long q1), .second, .val (.long q2), .second, .val (.long q3), .second, .val (.int p4), .val (.int (2 : Int32)), .val (.ref b1), .val (.double (FP.ddiv (FP.l2d (own_mx q0 q1)) 4696837146684686336)), .second, .val (.long (own_mx q0 q1)), .second] [])) _
    refine XS.dload X6.here hx rfl (hb hby at_141) rfl ?_
    show Steps p.tables e below (T6.setTop (mkF m 143 #[.val (.long q0), .second, .val (.long q1), .second, .val (.long q2), .second, .val (.long q3), .second, .val (.int p4), .val (.int (2 : Int32)), .val (.ref b1), .val (.double (FP.ddiv (FP.l2d (own_mx q0 q1)) 4696837146684686336)), .second, .val (.long (own_mx q0 q1)), .second] [(.double (FP.ddiv (FP.l2d (own_mx q0 q1)) 4696837146684686336))])) _
    refine XS.lload X6.here hx rfl (hb hby at_143) rfl ?_
    show Steps p.tables e below (T6.setTop (mkF m 145 #[.val (.long q0), .second, .val (.long q1), .second, .val (.long q2), .second, .val (.long q3), .second, .val (.int p4), .val (.int (2 : Int32)), .val (.ref b1), .val (.double (FP.ddiv (FP.l2d (own_mx q0 q1)) 4696837146684686336)), .second, .val (.long (own_mx q0 q1)), .second] [(.long (own_mx q0 q1)), (.double (FP.ddiv (FP.l2d (own_mx q0 q1)) 4696837146684686336))])) _
    refine XS.l2dS X6.here hx rfl (hb hby at_145) rfl rfl ?_
    show Steps p.tables e below (T6.setTop (mkF m 146 #[.val (.long q0), .second, .val (.long q1), .second, .val (.long q2), .second, .val (.long q3), .second, .val (.int p4), .val (.int (2 : Int32)), .val (.ref b1), .val (.double (FP.ddiv (FP.l2d (own_mx q0 q1)) 4696837146684686336)), .second, .val (.long (own_mx q0 q1)), .second] [(.double (FP.l2d (own_mx q0 q1))), (.double (FP.ddiv (FP.l2d (own_mx q0 q1)) 4696837146684686336))])) _
    refine X6.ldc2DoubleC hx hown (mvT hZ (hw _ (List.mem_of_getElem? (i := 63) rfl))) (g := (mkF m 146 #[.val (.long q0), .second, .val (.long q1), .second, .val (.long q2), .second, .val (.long q3), .second, .val (.int p4), .val (.int (2 : Int32)), .val (.ref b1), .val (.double (FP.ddiv (FP.l2d (own_mx q0 q1)) 4696837146684686336)), .second, .val (.long (own_mx q0 q1)), .second] [(.double (FP.l2d (own_mx q0 q1))), (.double (FP.ddiv (FP.l2d (own_mx q0 q1)) 4696837146684686336))])) rfl (hb hby at_146) _ ?_
    show Steps p.tables e below (T6.setTop (mkF m 149 #[.val (.long q0), .second, .val (.long q1), .second, .val (.long q2), .second, .val (.long q3), .second, .val (.int p4), .val (.int (2 : Int32)), .val (.ref b1), .val (.double (FP.ddiv (FP.l2d (own_mx q0 q1)) 4696837146684686336)), .second, .val (.long (own_mx q0 q1)), .second] [(.double 4696837146684686336), (.double (FP.l2d (own_mx q0 q1))), (.double (FP.ddiv (FP.l2d (own_mx q0 q1)) 4696837146684686336))])) _
    refine XS.ddivS X6.here hx rfl (hb hby at_149) rfl (own_nn _) rfl ?_
    show Steps p.tables e below (T6.setTop (mkF m 150 #[.val (.long q0), .second, .val (.long q1), .second, .val (.long q2), .second, .val (.long q3), .second, .val (.int p4), .val (.int (2 : Int32)), .val (.ref b1), .val (.double (FP.ddiv (FP.l2d (own_mx q0 q1)) 4696837146684686336)), .second, .val (.long (own_mx q0 q1)), .second] [(.double (FP.ddiv (FP.l2d (own_mx q0 q1)) 4696837146684686336)), (.double (FP.ddiv (FP.l2d (own_mx q0 q1)) 4696837146684686336))])) _
    refine XS.dcmpS X6.here hx rfl (hb hby at_150) rfl (v := (0 : Int32)) (dcmpV_self (own_nn _) .l) ?_
    show Steps p.tables e below (T6.setTop (mkF m 151 #[.val (.long q0), .second, .val (.long q1), .second, .val (.long q2), .second, .val (.long q3), .second, .val (.int p4), .val (.int (2 : Int32)), .val (.ref b1), .val (.double (FP.ddiv (FP.l2d (own_mx q0 q1)) 4696837146684686336)), .second, .val (.long (own_mx q0 q1)), .second] [(.int (0 : Int32))])) _
    refine XS.ifNo X6.here hx rfl (hb hby at_151) rfl ((if0 _ _).trans (teq (rfl : (0 : Int32) = (0 : Int32))).2) ?_
    show Steps p.tables e below (T6.setTop (mkF m 154 #[.val (.long q0), .second, .val (.long q1), .second, .val (.long q2), .second, .val (.long q3), .second, .val (.int p4), .val (.int (2 : Int32)), .val (.ref b1), .val (.double (FP.ddiv (FP.l2d (own_mx q0 q1)) 4696837146684686336)), .second, .val (.long (own_mx q0 q1)), .second] [])) _
    refine XS.iconst X6.here hx rfl (hb hby at_154) ?_
    show Steps p.tables e below (T6.setTop (mkF m 155 #[.val (.long q0), .second, .val (.long q1), .second, .val (.long q2), .second, .val (.long q3), .second, .val (.int p4), .val (.int (2 : Int32)), .val (.ref b1), .val (.double (FP.ddiv (FP.l2d (own_mx q0 q1)) 4696837146684686336)), .second, .val (.long (own_mx q0 q1)), .second] [(.int (1 : Int32))])) _
    refine XS.goto X6.here hx rfl (pc0 := 155) (pc' := 159) rfl (hb hby at_155) (by decide) (by decide) ?_
    show Steps p.tables e below (T6.setTop (mkF m 159 #[.val (.long q0), .second, .val (.long q1), .second, .val (.long q2), .second, .val (.long q3), .second, .val (.int p4), .val (.int (2 : Int32)), .val (.ref b1), .val (.double (FP.ddiv (FP.l2d (own_mx q0 q1)) 4696837146684686336)), .second, .val (.long (own_mx q0 q1)), .second] [(.int (1 : Int32))])) _
    exact retN X6 hx (t := .boolean) Bd.returns (by simp) (hb hby at_159) hr
  · show Q_rm0_2 Z q0 q1 q2 q3 p4 h0 n0 _ T6.heap _
    rw [e6]
    exact ⟨rfl, N6⟩
def Q_rm0_3 (Z : State) (q0 : Int64) (q1 : Int64) (q2 : Int64) (q3 : Int64) (p4 : Int32) (h0 : Heap) (n0 : Nat) (v : Option Value) (h : Heap) (L : List Loc) : Prop := v = some (.int (1 : Int32)) ∧ Fr n0 L
theorem ef_rm0_3 (m : MethodId) (q0 : Int64) (q1 : Int64) (q2 : Int64) (q3 : Int64) (p4 : Int32) : entryFrame m #[(.long q0), (.long q1), (.long q2), (.long q3), (.int p4)] maxLocals = mkF m 0 #[.val (.long q0), .second, .val (.long q1), .second, .val (.long q2), .second, .val (.long q3), .second, .val (.int p4), .unset, .unset, .unset, .unset, .unset, .unset] [] := by first | (simp [entryFrame, mkF, argsToLocals, Value.category, maxLocals]; done) | rfl
set_option maxRecDepth 65536 in
set_option maxHeartbeats 40000000 in
theorem rm0_3 (l : Launch) (Z : State) (a0 : Array Value) (hw : ∀ d ∈ tables_1, d.before a0 Z = true) (ws : List Jvm.Cond) (q0 : Int64) (q1 : Int64) (q2 : Int64) (q3 : Int64) (p4 : Int32) (h0 : Heap) (n0 : Nat) (Z0 : n0 ≤ h0.size) (hn : ((p4 &&& (2147483647 : Int32)) % (5 : Int32)) = (3 : Int32)) :
    MetFree l x (head1 (Jvm.Cond.code x code maxLocals ret :: ws) room_1) (fun a U => a = #[(.long q0), (.long q1), (.long q2), (.long q3), (.int p4)] ∧ Z.Warmed39 U.vm ∧ U.heap = h0) (fun _ _ _ _ _ => True) (fun _ U o U' => ∃ v L, o = .returned v ∧ Q_rm0_3 Z q0 q1 q2 q3 p4 h0 n0 v U'.heap L ∧ FrameEnd U o U' L room_1.cells room_1.slots) := by
  refine MetFree.of_bodySF (plainFor_of_name pn_4) hisR ?_
  intro p e s m args below meth c s₁ Bd hml0 hP hK
  obtain ⟨rfl, hZ, hh⟩ := hP
  have hx := Bd.exec
  have hby := Bd.bytes
  have hml : c.maxLocals = 15 := hml0
  have hown : s.vm.findClass "com/example/tolc/tolc/RecentResponseTimesAddPinLaw" = some m.cls := findClass_of_methodNamed Bd.named
  have hnm := (name_of_methodNamed Bd.named Bd.method).1
  have X0 : Stand p l e room_1 s m #[(.long q0), (.long q1), (.long q2), (.long q3), (.int p4)] below meth c s₁ [] 0 0 := Stand.of_body Bd
  have e0 : s₁.heap = h0 := by rw [← hh, Bd.state]; rfl
  have N0 := Fr.nil n0
  have pre0 : ∀ t, Steps p.tables e below (s₁.setTop (mkF m 0 #[.val (.long q0), .second, .val (.long q1), .second, .val (.long q2), .second, .val (.long q3), .second, .val (.int p4), .unset, .unset, .unset, .unset, .unset, .unset] [])) t → Steps p.tables e below (s₁.setTop (entryFrame m #[(.long q0), (.long q1), (.long q2), (.long q3), (.int p4)] maxLocals)) t := fun t k => castTop (ef_rm0_3 m q0 q1 q2 q3 p4) k
  obtain ⟨T1, h1, X1, e1, E1, A1, D1, -, st1⟩ := newO X0 hx hZ hown (hw _ (List.mem_of_getElem? (i := 1) rfl)) (hw _ (List.mem_of_getElem? (i := 2) rfl)) (hw _ (List.mem_of_getElem? (i := 3) rfl)) e0 (g := (mkF m 9 #[.val (.long q0), .second, .val (.long q1), .second, .val (.long q2), .second, .val (.long q3), .second, .val (.int p4), .val (.int (3 : Int32)), .unset, .unset, .unset, .unset, .unset] [])) rfl (hb hby at_9) (by decide) (by decide)
  obtain ⟨b1, g1⟩ : ∃ z, z = h0.size := ⟨_, rfl⟩
  rw [← g1] at A1 D1 st1
  have F1_1 : Fld Z h1 b1 "com/example/tolc/tolc/RecentResponseTimes" "nanos" "[J" .null := D1 (Or.inr (hw _ (List.mem_of_getElem? (i := 12) rfl))) (ty := (.array .long)) (by decide)
  have F1_2 : Fld Z h1 b1 "com/example/tolc/tolc/RecentResponseTimes" "next" "I" (.int (0 : Int32)) := D1 (Or.inl (hw _ (List.mem_of_getElem? (i := 19) rfl))) (ty := .int) (by decide)
  have F1_3 : Fld Z h1 b1 "com/example/tolc/tolc/RecentResponseTimes" "size" "I" (.int (0 : Int32)) := D1 (Or.inl (hw _ (List.mem_of_getElem? (i := 21) rfl))) (ty := .int) (by decide)
  obtain ⟨_, _, ⟨T2, L2, k2, n2⟩, -, X2, ⟨Lc2, hQ2, l2, y2, z2⟩, st2⟩ := X1.specialBack hx (y := (⟨"com/example/tolc/tolc/RecentResponseTimes", "<init>", "()V"⟩ : MethodName)) rfl hown (mvT hZ (hw _ (List.mem_of_getElem? (i := 4) rfl))) (mvT hZ (hw _ (List.mem_of_getElem? (i := 5) rfl))) (mvT hZ (hw _ (List.mem_of_getElem? (i := 6) rfl))) (by decide) (backOf (W := 1) (rmI l Z a0 hw [] b1 .null h1 n0 (Nat.le_trans Z0 E1.1) F1_2 F1_3 F1_1 A1 (Nat.le_trans Z0 (Nat.le_of_eq g1.symm))) hZ (hw _ (List.mem_of_getElem? (i := 6) rfl)) (hw _ (List.mem_of_getElem? (i := 3) rfl)) (by decide) (by decide)) (g := (mkF m 13 #[.val (.long q0), .second, .val (.long q1), .second, .val (.long q2), .second, .val (.long q3), .second, .val (.int p4), .val (.int (3 : Int32)), .unset, .unset, .unset, .unset, .unset] [(.ref b1), (.ref b1)])) rfl (by rw [hml]; rfl) (Steps.refl _) (a := b1) (argsL := []) (rest := [(.ref b1)]) (lenOf pd_7 rfl) rfl (by show 2 * 0 + _ ≤ _; exact Nat.le_of_eq rfl) (hb hby at_13) (fun _ _ => ⟨rfl, e1, (by decide : 1 + 1 ≤ _), (by decide : 3 + 100 ≤ _)⟩)
  dsimp only [Pt.U, Pt.locs, Pt.cells, Pt.slots] at X2 l2 y2 z2 st2 hQ2
  subst l2 y2 z2
  obtain ⟨na_2, ka_2, rfl, Nq2, gb2_0, Kp2, Fq2_0, Fq2_1, Fq2_2, Fq2_3, Fq2_4⟩ := hQ2
  have N2 := Fr.app N0 Nq2
  obtain ⟨cq3, kq3, q3a, q3b, q3c⟩ := isOf hZ rfl Fq2_0
  obtain ⟨_, _, ⟨T3, L3, k3, n3⟩, -, X3, ⟨Lc3, hQ3, l3, y3, z3⟩, st3⟩ := X2.virtualBack hx (y := (⟨"com/example/tolc/tolc/RecentResponseTimes", "add", "(J)V"⟩ : MethodName)) (z := (⟨"com/example/tolc/tolc/RecentResponseTimes", "add", "(J)V"⟩ : MethodName)) hown (mvT hZ (hw _ (List.mem_of_getElem? (i := 13) rfl))) (mvT hZ (hw _ (List.mem_of_getElem? (i := 14) rfl))) (notFace_of_selects (args := #[]) (mvT hZ (hw _ (List.mem_of_getElem? (i := 16) rfl)))) (mvT hZ (hw _ (List.mem_of_getElem? (i := 16) rfl))) (mvT hZ (hw _ (List.mem_of_getElem? (i := 15) rfl))) (by decide) (backOf (W := 0) (rmA0 l Z a0 hw [] b1 q0 na_2 ka_2 (0 : Int64) (0 : Int64) (0 : Int64) (0 : Int64) T2.heap n0 (Nat.le_trans (Nat.le_trans Z0 E1.1) Kp2.1) Fq2_0 Fq2_1 Fq2_2 Fq2_3 Fq2_4 (Nat.le_trans (Nat.le_trans Z0 E1.1) gb2_0) (Nat.ne_of_lt (Nat.lt_of_lt_of_le A1.lt gb2_0)) (Nat.le_trans Z0 (Nat.le_of_eq g1.symm))) hZ (hw _ (List.mem_of_getElem? (i := 17) rfl)) (hw _ (List.mem_of_getElem? (i := 3) rfl)) (by decide) (by decide)) q3a q3c (g := (mkF m 27 #[.val (.long q0), .second, .val (.long q1), .second, .val (.long q2), .second, .val (.long q3), .second, .val (.int p4), .val (.int (3 : Int32)), .val (.ref b1), .unset, .unset, .unset, .unset] [(.long q0), (.ref b1)])) rfl (by rw [hml]; rfl) (Steps.refl _) (argsL := [(.long q0)]) (rest := []) (lenOf pd_9 rfl) rfl (by show 2 * 0 + _ ≤ _; exact Nat.le_of_eq rfl) (hb hby at_27) (fun _ _ => ⟨rfl, rfl, (by decide : 2 + 0 ≤ _), (by decide : 103 + 0 ≤ _)⟩)
  dsimp only [Pt.U, Pt.locs, Pt.cells, Pt.slots] at X3 l3 y3 z3 st3 hQ3
  subst l3 y3 z3
  obtain ⟨rfl, Nq3, Kp3, Fq3_0, Fq3_1, Fq3_2, Fq3_3, Fq3_4⟩ := hQ3
  have N3 := Fr.app N2 Nq3
  obtain ⟨cq4, kq4, q4a, q4b, q4c⟩ := isOf hZ rfl Fq3_0
  obtain ⟨_, _, ⟨T4, L4, k4, n4⟩, -, X4, ⟨Lc4, hQ4, l4, y4, z4⟩, st4⟩ := X3.virtualBack hx (y := (⟨"com/example/tolc/tolc/RecentResponseTimes", "add", "(J)V"⟩ : MethodName)) (z := (⟨"com/example/tolc/tolc/RecentResponseTimes", "add", "(J)V"⟩ : MethodName)) hown (mvT hZ (hw _ (List.mem_of_getElem? (i := 13) rfl))) (mvT hZ (hw _ (List.mem_of_getElem? (i := 14) rfl))) (notFace_of_selects (args := #[]) (mvT hZ (hw _ (List.mem_of_getElem? (i := 16) rfl)))) (mvT hZ (hw _ (List.mem_of_getElem? (i := 16) rfl))) (mvT hZ (hw _ (List.mem_of_getElem? (i := 15) rfl))) (by decide) (backOf (W := 0) (rmA1 l Z a0 hw [] b1 q1 na_2 ka_2 q0 (0 : Int64) (0 : Int64) (0 : Int64) T3.heap n0 (Nat.le_trans (Nat.le_trans (Nat.le_trans Z0 E1.1) Kp2.1) Kp3.1) Fq3_0 Fq3_1 Fq3_2 Fq3_3 Fq3_4 (Nat.le_trans (Nat.le_trans Z0 E1.1) gb2_0) (Nat.ne_of_lt (Nat.lt_of_lt_of_le A1.lt gb2_0)) (Nat.le_trans Z0 (Nat.le_of_eq g1.symm))) hZ (hw _ (List.mem_of_getElem? (i := 17) rfl)) (hw _ (List.mem_of_getElem? (i := 3) rfl)) (by decide) (by decide)) q4a q4c (g := (mkF m 39 #[.val (.long q0), .second, .val (.long q1), .second, .val (.long q2), .second, .val (.long q3), .second, .val (.int p4), .val (.int (3 : Int32)), .val (.ref b1), .unset, .unset, .unset, .unset] [(.long q1), (.ref b1)])) rfl (by rw [hml]; rfl) (Steps.refl _) (argsL := [(.long q1)]) (rest := []) (lenOf pd_9 rfl) rfl (by show 2 * 0 + _ ≤ _; exact Nat.le_of_eq rfl) (hb hby at_39) (fun _ _ => ⟨rfl, rfl, (by decide : 2 + 0 ≤ _), (by decide : 103 + 0 ≤ _)⟩)
  dsimp only [Pt.U, Pt.locs, Pt.cells, Pt.slots] at X4 l4 y4 z4 st4 hQ4
  subst l4 y4 z4
  obtain ⟨rfl, Nq4, Kp4, Fq4_0, Fq4_1, Fq4_2, Fq4_3, Fq4_4⟩ := hQ4
  have N4 := Fr.app N3 Nq4
  obtain ⟨cq5, kq5, q5a, q5b, q5c⟩ := isOf hZ rfl Fq4_0
  obtain ⟨_, _, ⟨T5, L5, k5, n5⟩, -, X5, ⟨Lc5, hQ5, l5, y5, z5⟩, st5⟩ := X4.virtualBack hx (y := (⟨"com/example/tolc/tolc/RecentResponseTimes", "add", "(J)V"⟩ : MethodName)) (z := (⟨"com/example/tolc/tolc/RecentResponseTimes", "add", "(J)V"⟩ : MethodName)) hown (mvT hZ (hw _ (List.mem_of_getElem? (i := 13) rfl))) (mvT hZ (hw _ (List.mem_of_getElem? (i := 14) rfl))) (notFace_of_selects (args := #[]) (mvT hZ (hw _ (List.mem_of_getElem? (i := 16) rfl)))) (mvT hZ (hw _ (List.mem_of_getElem? (i := 16) rfl))) (mvT hZ (hw _ (List.mem_of_getElem? (i := 15) rfl))) (by decide) (backOf (W := 0) (rmA2 l Z a0 hw [] b1 q2 na_2 ka_2 q0 q1 (0 : Int64) (0 : Int64) T4.heap n0 (Nat.le_trans (Nat.le_trans (Nat.le_trans (Nat.le_trans Z0 E1.1) Kp2.1) Kp3.1) Kp4.1) Fq4_0 Fq4_1 Fq4_2 Fq4_3 Fq4_4 (Nat.le_trans (Nat.le_trans Z0 E1.1) gb2_0) (Nat.ne_of_lt (Nat.lt_of_lt_of_le A1.lt gb2_0)) (Nat.le_trans Z0 (Nat.le_of_eq g1.symm))) hZ (hw _ (List.mem_of_getElem? (i := 17) rfl)) (hw _ (List.mem_of_getElem? (i := 3) rfl)) (by decide) (by decide)) q5a q5c (g := (mkF m 52 #[.val (.long q0), .second, .val (.long q1), .second, .val (.long q2), .second, .val (.long q3), .second, .val (.int p4), .val (.int (3 : Int32)), .val (.ref b1), .unset, .unset, .unset, .unset] [(.long q2), (.ref b1)])) rfl (by rw [hml]; rfl) (Steps.refl _) (argsL := [(.long q2)]) (rest := []) (lenOf pd_9 rfl) rfl (by show 2 * 0 + _ ≤ _; exact Nat.le_of_eq rfl) (hb hby at_52) (fun _ _ => ⟨rfl, rfl, (by decide : 2 + 0 ≤ _), (by decide : 103 + 0 ≤ _)⟩)
  dsimp only [Pt.U, Pt.locs, Pt.cells, Pt.slots] at X5 l5 y5 z5 st5 hQ5
  subst l5 y5 z5
  obtain ⟨rfl, Nq5, Kp5, Fq5_0, Fq5_1, Fq5_2, Fq5_3, Fq5_4⟩ := hQ5
  have N5 := Fr.app N4 Nq5
  obtain ⟨cq6, kq6, q6a, q6b, q6c⟩ := isOf hZ rfl Fq5_0
  obtain ⟨_, _, ⟨T6, L6, k6, n6⟩, -, X6, ⟨Lc6, hQ6, l6, y6, z6⟩, st6⟩ := X5.virtualBack hx (y := (⟨"com/example/tolc/tolc/RecentResponseTimes", "p90Millis", "()D"⟩ : MethodName)) (z := (⟨"com/example/tolc/tolc/RecentResponseTimes", "p90Millis", "()D"⟩ : MethodName)) hown (mvT hZ (hw _ (List.mem_of_getElem? (i := 26) rfl))) (mvT hZ (hw _ (List.mem_of_getElem? (i := 27) rfl))) (notFace_of_selects (args := #[]) (mvT hZ (hw _ (List.mem_of_getElem? (i := 29) rfl)))) (mvT hZ (hw _ (List.mem_of_getElem? (i := 29) rfl))) (mvT hZ (hw _ (List.mem_of_getElem? (i := 28) rfl))) (by decide) (backOf (W := 0) (rmP3 l Z a0 hw [] b1 na_2 ka_2 q0 q1 q2 (0 : Int64) T5.heap n0 (Nat.le_trans (Nat.le_trans (Nat.le_trans (Nat.le_trans (Nat.le_trans Z0 E1.1) Kp2.1) Kp3.1) Kp4.1) Kp5.1) Fq5_0 Fq5_1 Fq5_3 Fq5_4) hZ (hw _ (List.mem_of_getElem? (i := 30) rfl)) (hw _ (List.mem_of_getElem? (i := 3) rfl)) (by decide) (by decide)) q6a q6c (g := (mkF m 70 #[.val (.long q0), .second, .val (.long q1), .second, .val (.long q2), .second, .val (.long q3), .second, .val (.int p4), .val (.int (3 : Int32)), .val (.ref b1), .unset, .unset, .unset, .unset] [(.ref b1)])) rfl (by rw [hml]; rfl) (Steps.refl _) (argsL := []) (rest := []) (lenOf pd_8 rfl) rfl (by show 2 * 0 + _ ≤ _; exact Nat.le_of_eq rfl) (hb hby at_70) (fun _ _ => ⟨rfl, rfl, (by decide : 2 + 1 ≤ _), (by decide : 103 + 3 ≤ _)⟩)
  dsimp only [Pt.U, Pt.locs, Pt.cells, Pt.slots] at X6 l6 y6 z6 st6 hQ6
  subst l6 y6 z6
  obtain ⟨rfl, Nq6, Kp6⟩ := hQ6
  have N6 := Fr.app N5 Nq6
  obtain ⟨_, _, ⟨T7, L7, k7, n7⟩, -, X7, ⟨Lc7, hQ7, l7, y7, z7⟩, st7⟩ := Jvm.LawKit.callS X6 hx (y := (⟨"java/lang/Math", "max", "(JJ)J"⟩ : MethodName)) hown (mvT hZ (hw _ (List.mem_of_getElem? (i := 60) rfl))) (mvT hZ (hw _ (List.mem_of_getElem? (i := 61) rfl))) (mvT hZ (hw _ (List.mem_of_getElem? (i := 24) rfl))) (mvT hZ (hw _ (List.mem_of_getElem? (i := 62) rfl))) (by decide) (backOf (W := 0) (rmaxL l Z a0 hw [] q0 q1 T6.heap n0 (Nat.le_trans (Nat.le_trans (Nat.le_trans (Nat.le_trans (Nat.le_trans (Nat.le_trans Z0 E1.1) Kp2.1) Kp3.1) Kp4.1) Kp5.1) Kp6.1)) hZ (hw _ (List.mem_of_getElem? (i := 62) rfl)) (hw _ (List.mem_of_getElem? (i := 24) rfl)) (by decide) (by decide)) (g := (mkF m 106 #[.val (.long q0), .second, .val (.long q1), .second, .val (.long q2), .second, .val (.long q3), .second, .val (.int p4), .val (.int (3 : Int32)), .val (.ref b1), .val (.double (FP.ddiv (FP.l2d (own_mx (own_mx q0 q1) q2)) 4696837146684686336)), .second, .val (.long q0), .second] [(.long q1), (.long q0)])) rfl (by rw [hml]; rfl) (argsL := [(.long q0), (.long q1)]) (rest := []) (lenOf pd_10 rfl) rfl (by show 2 * 0 + _ ≤ _; exact Nat.le_of_eq rfl) (hb hby at_106) (fun _ _ => ⟨rfl, rfl, (by decide : 3 + 0 ≤ _), (by decide : 106 + 0 ≤ _)⟩)
  dsimp only [Pt.U, Pt.locs, Pt.cells, Pt.slots] at X7 l7 y7 z7 st7 hQ7
  subst l7 y7 z7
  obtain ⟨rfl, Nq7, e7⟩ := hQ7
  have N7 := Fr.app N6 Nq7
  obtain ⟨_, _, ⟨T8, L8, k8, n8⟩, -, X8, ⟨Lc8, hQ8, l8, y8, z8⟩, st8⟩ := Jvm.LawKit.callS X7 hx (y := (⟨"java/lang/Math", "max", "(JJ)J"⟩ : MethodName)) hown (mvT hZ (hw _ (List.mem_of_getElem? (i := 60) rfl))) (mvT hZ (hw _ (List.mem_of_getElem? (i := 61) rfl))) (mvT hZ (hw _ (List.mem_of_getElem? (i := 24) rfl))) (mvT hZ (hw _ (List.mem_of_getElem? (i := 62) rfl))) (by decide) (backOf (W := 0) (rmaxL l Z a0 hw [] (own_mx q0 q1) q2 T6.heap n0 (Nat.le_trans (Nat.le_trans (Nat.le_trans (Nat.le_trans (Nat.le_trans (Nat.le_trans Z0 E1.1) Kp2.1) Kp3.1) Kp4.1) Kp5.1) Kp6.1)) hZ (hw _ (List.mem_of_getElem? (i := 62) rfl)) (hw _ (List.mem_of_getElem? (i := 24) rfl)) (by decide) (by decide)) (g := (mkF m 121 #[.val (.long q0), .second, .val (.long q1), .second, .val (.long q2), .second, .val (.long q3), .second, .val (.int p4), .val (.int (3 : Int32)), .val (.ref b1), .val (.double (FP.ddiv (FP.l2d (own_mx (own_mx q0 q1) q2)) 4696837146684686336)), .second, .val (.long (own_mx q0 q1)), .second] [(.long q2), (.long (own_mx q0 q1))])) rfl (by rw [hml]; rfl) (argsL := [(.long (own_mx q0 q1)), (.long q2)]) (rest := []) (lenOf pd_10 rfl) rfl (by show 2 * 0 + _ ≤ _; exact Nat.le_of_eq rfl) (hb hby at_121) (fun _ _ => ⟨rfl, e7, (by decide : 3 + 0 ≤ _), (by decide : 106 + 0 ≤ _)⟩)
  dsimp only [Pt.U, Pt.locs, Pt.cells, Pt.slots] at X8 l8 y8 z8 st8 hQ8
  subst l8 y8 z8
  obtain ⟨rfl, Nq8, e8⟩ := hQ8
  have N8 := Fr.app N7 Nq8
  obtain ⟨fs, hr, hrun, hended, hW, hsame⟩ := X8.leave (v := some (.int (1 : Int32))) (fun h => by rw [Bd.returns] at h; cases h)
  refine ⟨_, _, pre0 _ ?_, hrun, hended, _, _, rfl, ?_, ⟨_, rfl⟩, hW, hsame.mono (by decide) (by decide)⟩
  · show Steps p.tables e below (s₁.setTop (mkF m 0 #[.val (.long q0), .second, .val (.long q1), .second, .val (.long q2), .second, .val (.long q3), .second, .val (.int p4), .unset, .unset, .unset, .unset, .unset, .unset] [])) _
    refine XS.iload X0.here hx rfl (hb hby at_0) rfl ?_
    show Steps p.tables e below (s₁.setTop (mkF m 2 #[.val (.long q0), .second, .val (.long q1), .second, .val (.long q2), .second, .val (.long q3), .second, .val (.int p4), .unset, .unset, .unset, .unset, .unset, .unset] [(.int p4)])) _
    refine X0.ldcInt hx hown (mvT hZ (hw _ (List.mem_of_getElem? (i := 0) rfl))) (g := (mkF m 2 #[.val (.long q0), .second, .val (.long q1), .second, .val (.long q2), .second, .val (.long q3), .second, .val (.int p4), .unset, .unset, .unset, .unset, .unset, .unset] [(.int p4)])) rfl (hb hby at_2) _ ?_
    show Steps p.tables e below (s₁.setTop (mkF m 4 #[.val (.long q0), .second, .val (.long q1), .second, .val (.long q2), .second, .val (.long q3), .second, .val (.int p4), .unset, .unset, .unset, .unset, .unset, .unset] [(.int (2147483647 : Int32)), (.int p4)])) _
    refine XS.iand X0.here hx rfl (hb hby at_4) rfl ?_
    show Steps p.tables e below (s₁.setTop (mkF m 5 #[.val (.long q0), .second, .val (.long q1), .second, .val (.long q2), .second, .val (.long q3), .second, .val (.int p4), .unset, .unset, .unset, .unset, .unset, .unset] [(.int (p4 &&& (2147483647 : Int32)))])) _
    refine XS.iconst X0.here hx rfl (hb hby at_5) ?_
    show Steps p.tables e below (s₁.setTop (mkF m 6 #[.val (.long q0), .second, .val (.long q1), .second, .val (.long q2), .second, .val (.long q3), .second, .val (.int p4), .unset, .unset, .unset, .unset, .unset, .unset] [(.int (5 : Int32)), (.int (p4 &&& (2147483647 : Int32)))])) _
    refine iremM X0 hx (g := (mkF m 6 #[.val (.long q0), .second, .val (.long q1), .second, .val (.long q2), .second, .val (.long q3), .second, .val (.int p4), .unset, .unset, .unset, .unset, .unset, .unset] [(.int (5 : Int32)), (.int (p4 &&& (2147483647 : Int32)))])) rfl (hb hby at_6) rfl (by decide) ?_
    show Steps p.tables e below (s₁.setTop (mkF m 7 #[.val (.long q0), .second, .val (.long q1), .second, .val (.long q2), .second, .val (.long q3), .second, .val (.int p4), .unset, .unset, .unset, .unset, .unset, .unset] [(.int ((p4 &&& (2147483647 : Int32)) % (5 : Int32)))])) _
    rw [hn]
    show Steps p.tables e below (s₁.setTop (mkF m 7 #[.val (.long q0), .second, .val (.long q1), .second, .val (.long q2), .second, .val (.long q3), .second, .val (.int p4), .unset, .unset, .unset, .unset, .unset, .unset] [(.int (3 : Int32))])) _
    refine XS.istore X0.here hx rfl (hb hby at_7) rfl (l' := #[.val (.long q0), .second, .val (.long q1), .second, .val (.long q2), .second, .val (.long q3), .second, .val (.int p4), .val (.int (3 : Int32)), .unset, .unset, .unset, .unset, .unset]) rfl ?_
    show Steps p.tables e below (s₁.setTop (mkF m 9 #[.val (.long q0), .second, .val (.long q1), .second, .val (.long q2), .second, .val (.long q3), .second, .val (.int p4), .val (.int (3 : Int32)), .unset, .unset, .unset, .unset, .unset] [])) _
    refine st1 _ ?_
    show Steps p.tables e below (T1.setTop (mkF m 12 #[.val (.long q0), .second, .val (.long q1), .second, .val (.long q2), .second, .val (.long q3), .second, .val (.int p4), .val (.int (3 : Int32)), .unset, .unset, .unset, .unset, .unset] [(.ref b1)])) _
    refine XS.dup X1.here hx rfl (hb hby at_12) rfl rfl ?_
    show Steps p.tables e below (T1.setTop (mkF m 13 #[.val (.long q0), .second, .val (.long q1), .second, .val (.long q2), .second, .val (.long q3), .second, .val (.int p4), .val (.int (3 : Int32)), .unset, .unset, .unset, .unset, .unset] [(.ref b1), (.ref b1)])) _
    refine st2.trans ?_
    show Steps p.tables e below (T2.setTop (mkF m 16 #[.val (.long q0), .second, .val (.long q1), .second, .val (.long q2), .second, .val (.long q3), .second, .val (.int p4), .val (.int (3 : Int32)), .unset, .unset, .unset, .unset, .unset] [(.ref b1)])) _
    refine XS.astore X2.here hx rfl (hb hby at_16) rfl rfl (l' := #[.val (.long q0), .second, .val (.long q1), .second, .val (.long q2), .second, .val (.long q3), .second, .val (.int p4), .val (.int (3 : Int32)), .val (.ref b1), .unset, .unset, .unset, .unset]) rfl ?_
    show Steps p.tables e below (T2.setTop (mkF m 18 #[.val (.long q0), .second, .val (.long q1), .second, .val (.long q2), .second, .val (.long q3), .second, .val (.int p4), .val (.int (3 : Int32)), .val (.ref b1), .unset, .unset, .unset, .unset] [])) _
    refine XS.iload X2.here hx rfl (hb hby at_18) rfl ?_
    show Steps p.tables e below (T2.setTop (mkF m 20 #[.val (.long q0), .second, .val (.long q1), .second, .val (.long q2), .second, .val (.long q3), .second, .val (.int p4), .val (.int (3 : Int32)), .val (.ref b1), .unset, .unset, .unset, .unset] [(.int (3 : Int32))])) _
    refine XS.iconst X2.here hx rfl (hb hby at_20) ?_
    show Steps p.tables e below (T2.setTop (mkF m 21 #[.val (.long q0), .second, .val (.long q1), .second, .val (.long q2), .second, .val (.long q3), .second, .val (.int p4), .val (.int (3 : Int32)), .val (.ref b1), .unset, .unset, .unset, .unset] [(.int (1 : Int32)), (.int (3 : Int32))])) _
    refine XS.icmpNo X2.here hx rfl (hb hby at_21) rfl (flt (by decide : ¬ ((3 : Int32) < (1 : Int32)))).1 ?_
    show Steps p.tables e below (T2.setTop (mkF m 24 #[.val (.long q0), .second, .val (.long q1), .second, .val (.long q2), .second, .val (.long q3), .second, .val (.int p4), .val (.int (3 : Int32)), .val (.ref b1), .unset, .unset, .unset, .unset] [])) _
    refine XS.aload X2.here hx rfl (hb hby at_24) rfl rfl ?_
    show Steps p.tables e below (T2.setTop (mkF m 26 #[.val (.long q0), .second, .val (.long q1), .second, .val (.long q2), .second, .val (.long q3), .second, .val (.int p4), .val (.int (3 : Int32)), .val (.ref b1), .unset, .unset, .unset, .unset] [(.ref b1)])) _
    refine XS.lloadN X2.here hx rfl (hb hby at_26) rfl ?_
    show Steps p.tables e below (T2.setTop (mkF m 27 #[.val (.long q0), .second, .val (.long q1), .second, .val (.long q2), .second, .val (.long q3), .second, .val (.int p4), .val (.int (3 : Int32)), .val (.ref b1), .unset, .unset, .unset, .unset] [(.long q0), (.ref b1)])) _
    refine st3.trans ?_
    show Steps p.tables e below (T3.setTop (mkF m 30 #[.val (.long q0), .second, .val (.long q1), .second, .val (.long q2), .second, .val (.long q3), .second, .val (.int p4), .val (.int (3 : Int32)), .val (.ref b1), .unset, .unset, .unset, .unset] [])) _
    refine XS.iload X3.here hx rfl (hb hby at_30) rfl ?_
    show Steps p.tables e below (T3.setTop (mkF m 32 #[.val (.long q0), .second, .val (.long q1), .second, .val (.long q2), .second, .val (.long q3), .second, .val (.int p4), .val (.int (3 : Int32)), .val (.ref b1), .unset, .unset, .unset, .unset] [(.int (3 : Int32))])) _
    refine XS.iconst X3.here hx rfl (hb hby at_32) ?_
    show Steps p.tables e below (T3.setTop (mkF m 33 #[.val (.long q0), .second, .val (.long q1), .second, .val (.long q2), .second, .val (.long q3), .second, .val (.int p4), .val (.int (3 : Int32)), .val (.ref b1), .unset, .unset, .unset, .unset] [(.int (2 : Int32)), (.int (3 : Int32))])) _
    refine XS.icmpNo X3.here hx rfl (hb hby at_33) rfl (flt (by decide : ¬ ((3 : Int32) < (2 : Int32)))).1 ?_
    show Steps p.tables e below (T3.setTop (mkF m 36 #[.val (.long q0), .second, .val (.long q1), .second, .val (.long q2), .second, .val (.long q3), .second, .val (.int p4), .val (.int (3 : Int32)), .val (.ref b1), .unset, .unset, .unset, .unset] [])) _
    refine XS.aload X3.here hx rfl (hb hby at_36) rfl rfl ?_
    show Steps p.tables e below (T3.setTop (mkF m 38 #[.val (.long q0), .second, .val (.long q1), .second, .val (.long q2), .second, .val (.long q3), .second, .val (.int p4), .val (.int (3 : Int32)), .val (.ref b1), .unset, .unset, .unset, .unset] [(.ref b1)])) _
    refine XS.lloadN X3.here hx rfl (hb hby at_38) rfl ?_
    show Steps p.tables e below (T3.setTop (mkF m 39 #[.val (.long q0), .second, .val (.long q1), .second, .val (.long q2), .second, .val (.long q3), .second, .val (.int p4), .val (.int (3 : Int32)), .val (.ref b1), .unset, .unset, .unset, .unset] [(.long q1), (.ref b1)])) _
    refine st4.trans ?_
    show Steps p.tables e below (T4.setTop (mkF m 42 #[.val (.long q0), .second, .val (.long q1), .second, .val (.long q2), .second, .val (.long q3), .second, .val (.int p4), .val (.int (3 : Int32)), .val (.ref b1), .unset, .unset, .unset, .unset] [])) _
    refine XS.iload X4.here hx rfl (hb hby at_42) rfl ?_
    show Steps p.tables e below (T4.setTop (mkF m 44 #[.val (.long q0), .second, .val (.long q1), .second, .val (.long q2), .second, .val (.long q3), .second, .val (.int p4), .val (.int (3 : Int32)), .val (.ref b1), .unset, .unset, .unset, .unset] [(.int (3 : Int32))])) _
    refine XS.iconst X4.here hx rfl (hb hby at_44) ?_
    show Steps p.tables e below (T4.setTop (mkF m 45 #[.val (.long q0), .second, .val (.long q1), .second, .val (.long q2), .second, .val (.long q3), .second, .val (.int p4), .val (.int (3 : Int32)), .val (.ref b1), .unset, .unset, .unset, .unset] [(.int (3 : Int32)), (.int (3 : Int32))])) _
    refine XS.icmpNo X4.here hx rfl (hb hby at_45) rfl (flt (by decide : ¬ ((3 : Int32) < (3 : Int32)))).1 ?_
    show Steps p.tables e below (T4.setTop (mkF m 48 #[.val (.long q0), .second, .val (.long q1), .second, .val (.long q2), .second, .val (.long q3), .second, .val (.int p4), .val (.int (3 : Int32)), .val (.ref b1), .unset, .unset, .unset, .unset] [])) _
    refine XS.aload X4.here hx rfl (hb hby at_48) rfl rfl ?_
    show Steps p.tables e below (T4.setTop (mkF m 50 #[.val (.long q0), .second, .val (.long q1), .second, .val (.long q2), .second, .val (.long q3), .second, .val (.int p4), .val (.int (3 : Int32)), .val (.ref b1), .unset, .unset, .unset, .unset] [(.ref b1)])) _
    refine XS.lload X4.here hx rfl (hb hby at_50) rfl ?_
    show Steps p.tables e below (T4.setTop (mkF m 52 #[.val (.long q0), .second, .val (.long q1), .second, .val (.long q2), .second, .val (.long q3), .second, .val (.int p4), .val (.int (3 : Int32)), .val (.ref b1), .unset, .unset, .unset, .unset] [(.long q2), (.ref b1)])) _
    refine st5.trans ?_
    show Steps p.tables e below (T5.setTop (mkF m 55 #[.val (.long q0), .second, .val (.long q1), .second, .val (.long q2), .second, .val (.long q3), .second, .val (.int p4), .val (.int (3 : Int32)), .val (.ref b1), .unset, .unset, .unset, .unset] [])) _
    refine XS.iload X5.here hx rfl (hb hby at_55) rfl ?_
    show Steps p.tables e below (T5.setTop (mkF m 57 #[.val (.long q0), .second, .val (.long q1), .second, .val (.long q2), .second, .val (.long q3), .second, .val (.int p4), .val (.int (3 : Int32)), .val (.ref b1), .unset, .unset, .unset, .unset] [(.int (3 : Int32))])) _
    refine XS.iconst X5.here hx rfl (hb hby at_57) ?_
    show Steps p.tables e below (T5.setTop (mkF m 58 #[.val (.long q0), .second, .val (.long q1), .second, .val (.long q2), .second, .val (.long q3), .second, .val (.int p4), .val (.int (3 : Int32)), .val (.ref b1), .unset, .unset, .unset, .unset] [(.int (4 : Int32)), (.int (3 : Int32))])) _
    refine XS.icmpYes X5.here hx rfl (pc0 := 58) (pc' := 68) rfl (hb hby at_58) rfl (tlt (by decide : (3 : Int32) < (4 : Int32))).1 (by decide) (by decide) ?_
    show Steps p.tables e below (T5.setTop (mkF m 68 #[.val (.long q0), .second, .val (.long q1), .second, .val (.long q2), .second, .val (.long q3), .second, .val (.int p4), .val (.int (3 : Int32)), .val (.ref b1), .unset, .unset, .unset, .unset] [])) _
    refine XS.aload X5.here hx rfl (hb hby at_68) rfl rfl ?_
    show Steps p.tables e below (T5.setTop (mkF m 70 #[.val (.long q0), .second, .val (.long q1), .second, .val (.long q2), .second, .val (.long q3), .second, .val (.int p4), .val (.int (3 : Int32)), .val (.ref b1), .unset, .unset, .unset, .unset] [(.ref b1)])) _
    refine st6.trans ?_
    show Steps p.tables e below (T6.setTop (mkF m 73 #[.val (.long q0), .second, .val (.long q1), .second, .val (.long q2), .second, .val (.long q3), .second, .val (.int p4), .val (.int (3 : Int32)), .val (.ref b1), .unset, .unset, .unset, .unset] [(.double (FP.ddiv (FP.l2d (own_mx (own_mx q0 q1) q2)) 4696837146684686336))])) _
    refine XS.dstore X6.here hx rfl (hb hby at_73) rfl (l' := #[.val (.long q0), .second, .val (.long q1), .second, .val (.long q2), .second, .val (.long q3), .second, .val (.int p4), .val (.int (3 : Int32)), .val (.ref b1), .val (.double (FP.ddiv (FP.l2d (own_mx (own_mx q0 q1) q2)) 4696837146684686336)), .second, .unset, .unset]) rfl ?_
    show Steps p.tables e below (T6.setTop (mkF m 75 #[.val (.long q0), .second, .val (.long q1), .second, .val (.long q2), .second, .val (.long q3), .second, .val (.int p4), .val (.int (3 : Int32)), .val (.ref b1), .val (.double (FP.ddiv (FP.l2d (own_mx (own_mx q0 q1) q2)) 4696837146684686336)), .second, .unset, .unset] [])) _
    refine XS.iload X6.here hx rfl (hb hby at_75) rfl ?_
    show Steps p.tables e below (T6.setTop (mkF m 77 #[.val (.long q0), .second, .val (.long q1), .second, .val (.long q2), .second, .val (.long q3), .second, .val (.int p4), .val (.int (3 : Int32)), .val (.ref b1), .val (.double (FP.ddiv (FP.l2d (own_mx (own_mx q0 q1) q2)) 4696837146684686336)), .second, .unset, .unset] [(.int (3 : Int32))])) _
    refine XS.ifYes X6.here hx rfl (pc0 := 77) (pc' := 94) rfl (hb hby at_77) rfl ((if0 _ _).trans (feq (by decide : ¬ ((3 : Int32) = (0 : Int32)))).2) (by decide) (by decide) ?_
    show Steps p.tables e below (T6.setTop (mkF m 94 #[.val (.long q0), .second, .val (.long q1), .second, .val (.long q2), .second, .val (.long q3), .second, .val (.int p4), .val (.int (3 : Int32)), .val (.ref b1), .val (.double (FP.ddiv (FP.l2d (own_mx (own_mx q0 q1) q2)) 4696837146684686336)), .second, .unset, .unset] [])) _
    refine XS.lloadN X6.here hx rfl (hb hby at_94) rfl ?_
    show Steps p.tables e below (T6.setTop (mkF m 95 #[.val (.long q0), .second, .val (.long q1), .second, .val (.long q2), .second, .val (.long q3), .second, .val (.int p4), .val (.int (3 : Int32)), .val (.ref b1), .val (.double (FP.ddiv (FP.l2d (own_mx (own_mx q0 q1) q2)) 4696837146684686336)), .second, .unset, .unset] [(.long q0)])) _
    refine XS.lstore X6.here hx rfl (hb hby at_95) rfl (l' := #[.val (.long q0), .second, .val (.long q1), .second, .val (.long q2), .second, .val (.long q3), .second, .val (.int p4), .val (.int (3 : Int32)), .val (.ref b1), .val (.double (FP.ddiv (FP.l2d (own_mx (own_mx q0 q1) q2)) 4696837146684686336)), .second, .val (.long q0), .second]) rfl ?_
    show Steps p.tables e below (T6.setTop (mkF m 97 #[.val (.long q0), .second, .val (.long q1), .second, .val (.long q2), .second, .val (.long q3), .second, .val (.int p4), .val (.int (3 : Int32)), .val (.ref b1), .val (.double (FP.ddiv (FP.l2d (own_mx (own_mx q0 q1) q2)) 4696837146684686336)), .second, .val (.long q0), .second] [])) _
    refine XS.iload X6.here hx rfl (hb hby at_97) rfl ?_
    show Steps p.tables e below (T6.setTop (mkF m 99 #[.val (.long q0), .second, .val (.long q1), .second, .val (.long q2), .second, .val (.long q3), .second, .val (.int p4), .val (.int (3 : Int32)), .val (.ref b1), .val (.double (FP.ddiv (FP.l2d (own_mx (own_mx q0 q1) q2)) 4696837146684686336)), .second, .val (.long q0), .second] [(.int (3 : Int32))])) _
    refine XS.iconst X6.here hx rfl (hb hby at_99) ?_
    show Steps p.tables e below (T6.setTop (mkF m 100 #[.val (.long q0), .second, .val (.long q1), .second, .val (.long q2), .second, .val (.long q3), .second, .val (.int p4), .val (.int (3 : Int32)), .val (.ref b1), .val (.double (FP.ddiv (FP.l2d (own_mx (own_mx q0 q1) q2)) 4696837146684686336)), .second, .val (.long q0), .second] [(.int (2 : Int32)), (.int (3 : Int32))])) _
    refine XS.icmpNo X6.here hx rfl (hb hby at_100) rfl (flt (by decide : ¬ ((3 : Int32) < (2 : Int32)))).1 ?_
    show Steps p.tables e below (T6.setTop (mkF m 103 #[.val (.long q0), .second, .val (.long q1), .second, .val (.long q2), .second, .val (.long q3), .second, .val (.int p4), .val (.int (3 : Int32)), .val (.ref b1), .val (.double (FP.ddiv (FP.l2d (own_mx (own_mx q0 q1) q2)) 4696837146684686336)), .second, .val (.long q0), .second] [])) _
    refine XS.lload X6.here hx rfl (hb hby at_103) rfl ?_
    show Steps p.tables e below (T6.setTop (mkF m 105 #[.val (.long q0), .second, .val (.long q1), .second, .val (.long q2), .second, .val (.long q3), .second, .val (.int p4), .val (.int (3 : Int32)), .val (.ref b1), .val (.double (FP.ddiv (FP.l2d (own_mx (own_mx q0 q1) q2)) 4696837146684686336)), .second, .val (.long q0), .second] [(.long q0)])) _
    refine XS.lloadN X6.here hx rfl (hb hby at_105) rfl ?_
    show Steps p.tables e below (T6.setTop (mkF m 106 #[.val (.long q0), .second, .val (.long q1), .second, .val (.long q2), .second, .val (.long q3), .second, .val (.int p4), .val (.int (3 : Int32)), .val (.ref b1), .val (.double (FP.ddiv (FP.l2d (own_mx (own_mx q0 q1) q2)) 4696837146684686336)), .second, .val (.long q0), .second] [(.long q1), (.long q0)])) _
    refine st7 _ ?_
    show Steps p.tables e below (T7.setTop (mkF m 109 #[.val (.long q0), .second, .val (.long q1), .second, .val (.long q2), .second, .val (.long q3), .second, .val (.int p4), .val (.int (3 : Int32)), .val (.ref b1), .val (.double (FP.ddiv (FP.l2d (own_mx (own_mx q0 q1) q2)) 4696837146684686336)), .second, .val (.long q0), .second] [(.long (if (lcmpW q0 q1) < (0 : Int32) then q1 else q0))])) _
    rw [own_mx_eq _ _]
    show Steps p.tables e below (T7.setTop (mkF m 109 #[.val (.long q0), .second, .val (.long q1), .second, .val (.long q2), .second, .val (.long q3), .second, .val (.int p4), .val (.int (3 : Int32)), .val (.ref b1), .val (.double (FP.ddiv (FP.l2d (own_mx (own_mx q0 q1) q2)) 4696837146684686336)), .second, .val (.long q0), .second] [(.long (own_mx q0 q1))])) _
    refine XS.lstore X7.here hx rfl (hb hby at_109) rfl (l' := #[.val (.long q0), .second, .val (.long q1), .second, .val (.long q2), .second, .val (.long q3), .second, .val (.int p4), .val (.int (3 : Int32)), .val (.ref b1), .val (.double (FP.ddiv (FP.l2d (own_mx (own_mx q0 q1) q2)) 4696837146684686336)), .second, .val (.long (own_mx q0 q1)), .second]) rfl ?_
    show Steps p.tables e below (T7.setTop (mkF m 111 #[.val (.long q0), .second, .val (.long q1), .second, .val (.long q2), .second, .val (.long q3), .second, .val (.int p4), .val (.int (3 : Int32)), .val (.ref b1), .val (.double (FP.ddiv (FP.l2d (own_mx (own_mx q0 q1) q2)) 4696837146684686336)), .second, .val (.long (own_mx q0 q1)), .second] [])) _
    refine XS.iload X7.here hx rfl (hb hby at_111) rfl ?_
    show Steps p.tables e below (T7.setTop (mkF m 113 #[.val (.long q0), .second, .val (.long q1), .second, .val (.long q2), .second, .val (.long q3), .second, .val (.int p4), .val (.int (3 : Int32)), .val (.ref b1), .val (.double (FP.ddiv (FP.l2d (own_mx (own_mx q0 q1) q2)) 4696837146684686336)), .second, .val (.long (own_mx q0 q1)), .second] [(.int (3 : Int32))])) _
    refine XS.iconst X7.here hx rfl (hb hby at_113) ?_
    show Steps p.tables e below (T7.setTop (mkF m 114 #[.val (.long q0), .second, .val (.long q1), .second, .val (.long q2), .second, .val (.long q3), .second, .val (.int p4), .val (.int (3 : Int32)), .val (.ref b1), .val (.double (FP.ddiv (FP.l2d (own_mx (own_mx q0 q1) q2)) 4696837146684686336)), .second, .val (.long (own_mx q0 q1)), .second] [(.int (3 : Int32)), (.int (3 : Int32))])) _
    refine XS.icmpNo X7.here hx rfl (hb hby at_114) rfl (flt (by decide : ¬ ((3 : Int32) < (3 : Int32)))).1 ?_
    show Steps p.tables e below (T7.setTop (mkF m 117 #[.val (.long q0), .second, .val (.long q1), .second, .val (.long q2), .second, .val (.long q3), .second, .val (.int p4), .val (.int (3 : Int32)), .val (.ref b1), .val (.double (FP.ddiv (FP.l2d (own_mx (own_mx q0 q1) q2)) 4696837146684686336)), .second, .val (.long (own_mx q0 q1)), .second] [])) _
    refine XS.lload X7.here hx rfl (hb hby at_117) rfl ?_
    show Steps p.tables e below (T7.setTop (mkF m 119 #[.val (.long q0), .second, .val (.long q1), .second, .val (.long q2), .second, .val (.long q3), .second, .val (.int p4), .val (.int (3 : Int32)), .val (.ref b1), .val (.double (FP.ddiv (FP.l2d (own_mx (own_mx q0 q1) q2)) 4696837146684686336)), .second, .val (.long (own_mx q0 q1)), .second] [(.long (own_mx q0 q1))])) _
    refine XS.lload X7.here hx rfl (hb hby at_119) rfl ?_
    show Steps p.tables e below (T7.setTop (mkF m 121 #[.val (.long q0), .second, .val (.long q1), .second, .val (.long q2), .second, .val (.long q3), .second, .val (.int p4), .val (.int (3 : Int32)), .val (.ref b1), .val (.double (FP.ddiv (FP.l2d (own_mx (own_mx q0 q1) q2)) 4696837146684686336)), .second, .val (.long (own_mx q0 q1)), .second] [(.long q2), (.long (own_mx q0 q1))])) _
    refine st8 _ ?_
    show Steps p.tables e below (T8.setTop (mkF m 124 #[.val (.long q0), .second, .val (.long q1), .second, .val (.long q2), .second, .val (.long q3), .second, .val (.int p4), .val (.int (3 : Int32)), .val (.ref b1), .val (.double (FP.ddiv (FP.l2d (own_mx (own_mx q0 q1) q2)) 4696837146684686336)), .second, .val (.long (own_mx q0 q1)), .second] [(.long (if (lcmpW (own_mx q0 q1) q2) < (0 : Int32) then q2 else (own_mx q0 q1)))])) _
    rw [own_mx_eq _ _]
    show Steps p.tables e below (T8.setTop (mkF m 124 #[.val (.long q0), .second, .val (.long q1), .second, .val (.long q2), .second, .val (.long q3), .second, .val (.int p4), .val (.int (3 : Int32)), .val (.ref b1), .val (.double (FP.ddiv (FP.l2d (own_mx (own_mx q0 q1) q2)) 4696837146684686336)), .second, .val (.long (own_mx q0 q1)), .second] [(.long (own_mx (own_mx q0 q1) q2))])) _
    refine XS.lstore X8.here hx rfl (hb hby at_124) rfl (l' := #[.val (.long q0), .second, .val (.long q1), .second, .val (.long q2), .second, .val (.long q3), .second, .val (.int p4), .val (.int (3 : Int32)), .val (.ref b1), .val (.double (FP.ddiv (FP.l2d (own_mx (own_mx q0 q1) q2)) 4696837146684686336)), .second, .val (.long (own_mx (own_mx q0 q1) q2)), .second]) rfl ?_
    show Steps p.tables e below (T8.setTop (mkF m 126 #[.val (.long q0), .second, .val (.long q1), .second, .val (.long q2), .second, .val (.long q3), .second, .val (.int p4), .val (.int (3 : Int32)), .val (.ref b1), .val (.double (FP.ddiv (FP.l2d (own_mx (own_mx q0 q1) q2)) 4696837146684686336)), .second, .val (.long (own_mx (own_mx q0 q1) q2)), .second] [])) _
    refine XS.iload X8.here hx rfl (hb hby at_126) rfl ?_
    show Steps p.tables e below (T8.setTop (mkF m 128 #[.val (.long q0), .second, .val (.long q1), .second, .val (.long q2), .second, .val (.long q3), .second, .val (.int p4), .val (.int (3 : Int32)), .val (.ref b1), .val (.double (FP.ddiv (FP.l2d (own_mx (own_mx q0 q1) q2)) 4696837146684686336)), .second, .val (.long (own_mx (own_mx q0 q1) q2)), .second] [(.int (3 : Int32))])) _
    refine XS.iconst X8.here hx rfl (hb hby at_128) ?_
    show Steps p.tables e below (T8.setTop (mkF m 129 #[.val (.long q0), .second, .val (.long q1), .second, .val (.long q2), .second, .val (.long q3), .second, .val (.int p4), .val (.int (3 : Int32)), .val (.ref b1), .val (.double (FP.ddiv (FP.l2d (own_mx (own_mx q0 q1) q2)) 4696837146684686336)), .second, .val (.long (own_mx (own_mx q0 q1) q2)), .second] [(.int (4 : Int32)), (.int (3 : Int32))])) _
    refine XS.icmpYes X8.here hx rfl (pc0 := 129) (pc' := 141) rfl (hb hby at_129) rfl (tlt (by decide : (3 : Int32) < (4 : Int32))).1 (by decide) (by decide) ?_
    show Steps p.tables e below (T8.setTop (mkF m 141 #[.val (.long q0), .second, .val (.long q1), .second, .val (.long q2), .second, .val (.long q3), .second, .val (.int p4), .val (.int (3 : Int32)), .val (.ref b1), .val (.double (FP.ddiv (FP.l2d (own_mx (own_mx q0 q1) q2)) 4696837146684686336)), .second, .val (.long (own_mx (own_mx q0 q1) q2)), .second] [])) _
    refine XS.dload X8.here hx rfl (hb hby at_141) rfl ?_
    show Steps p.tables e below (T8.setTop (mkF m 143 #[.val (.long q0), .second, .val (.long q1), .second, .val (.long q2), .second, .val (.long q3), .second, .val (.int p4), .val (.int (3 : Int32)), .val (.ref b1), .val (.double (FP.ddiv (FP.l2d (own_mx (own_mx q0 q1) q2)) 4696837146684686336)), .second, .val (.long (own_mx (own_mx q0 q1) q2)), .second] [(.double (FP.ddiv (FP.l2d (own_mx (own_mx q0 q1) q2)) 4696837146684686336))])) _
    refine XS.lload X8.here hx rfl (hb hby at_143) rfl ?_
    show Steps p.tables e below (T8.setTop (mkF m 145 #[.val (.long q0), .second, .val (.long q1), .second, .val (.long q2), .second, .val (.long q3), .second, .val (.int p4), .val (.int (3 : Int32)), .val (.ref b1), .val (.double (FP.ddiv (FP.l2d (own_mx (own_mx q0 q1) q2)) 4696837146684686336)), .second, .val (.long (own_mx (own_mx q0 q1) q2)), .second] [(.long (own_mx (own_mx q0 q1) q2)), (.double (FP.ddiv (FP.l2d (own_mx (own_mx q0 q1) q2)) 4696837146684686336))])) _
    refine XS.l2dS X8.here hx rfl (hb hby at_145) rfl rfl ?_
    show Steps p.tables e below (T8.setTop (mkF m 146 #[.val (.long q0), .second, .val (.long q1), .second, .val (.long q2), .second, .val (.long q3), .second, .val (.int p4), .val (.int (3 : Int32)), .val (.ref b1), .val (.double (FP.ddiv (FP.l2d (own_mx (own_mx q0 q1) q2)) 4696837146684686336)), .second, .val (.long (own_mx (own_mx q0 q1) q2)), .second] [(.double (FP.l2d (own_mx (own_mx q0 q1) q2))), (.double (FP.ddiv (FP.l2d (own_mx (own_mx q0 q1) q2)) 4696837146684686336))])) _
    refine X8.ldc2DoubleC hx hown (mvT hZ (hw _ (List.mem_of_getElem? (i := 63) rfl))) (g := (mkF m 146 #[.val (.long q0), .second, .val (.long q1), .second, .val (.long q2), .second, .val (.long q3), .second, .val (.int p4), .val (.int (3 : Int32)), .val (.ref b1), .val (.double (FP.ddiv (FP.l2d (own_mx (own_mx q0 q1) q2)) 4696837146684686336)), .second, .val (.long (own_mx (own_mx q0 q1) q2)), .second] [(.double (FP.l2d (own_mx (own_mx q0 q1) q2))), (.double (FP.ddiv (FP.l2d (own_mx (own_mx q0 q1) q2)) 4696837146684686336))])) rfl (hb hby at_146) _ ?_
    show Steps p.tables e below (T8.setTop (mkF m 149 #[.val (.long q0), .second, .val (.long q1), .second, .val (.long q2), .second, .val (.long q3), .second, .val (.int p4), .val (.int (3 : Int32)), .val (.ref b1), .val (.double (FP.ddiv (FP.l2d (own_mx (own_mx q0 q1) q2)) 4696837146684686336)), .second, .val (.long (own_mx (own_mx q0 q1) q2)), .second] [(.double 4696837146684686336), (.double (FP.l2d (own_mx (own_mx q0 q1) q2))), (.double (FP.ddiv (FP.l2d (own_mx (own_mx q0 q1) q2)) 4696837146684686336))])) _
    refine XS.ddivS X8.here hx rfl (hb hby at_149) rfl (own_nn _) rfl ?_
    show Steps p.tables e below (T8.setTop (mkF m 150 #[.val (.long q0), .second, .val (.long q1), .second, .val (.long q2), .second, .val (.long q3), .second, .val (.int p4), .val (.int (3 : Int32)), .val (.ref b1), .val (.double (FP.ddiv (FP.l2d (own_mx (own_mx q0 q1) q2)) 4696837146684686336)), .second, .val (.long (own_mx (own_mx q0 q1) q2)), .second] [(.double (FP.ddiv (FP.l2d (own_mx (own_mx q0 q1) q2)) 4696837146684686336)), (.double (FP.ddiv (FP.l2d (own_mx (own_mx q0 q1) q2)) 4696837146684686336))])) _
    refine XS.dcmpS X8.here hx rfl (hb hby at_150) rfl (v := (0 : Int32)) (dcmpV_self (own_nn _) .l) ?_
    show Steps p.tables e below (T8.setTop (mkF m 151 #[.val (.long q0), .second, .val (.long q1), .second, .val (.long q2), .second, .val (.long q3), .second, .val (.int p4), .val (.int (3 : Int32)), .val (.ref b1), .val (.double (FP.ddiv (FP.l2d (own_mx (own_mx q0 q1) q2)) 4696837146684686336)), .second, .val (.long (own_mx (own_mx q0 q1) q2)), .second] [(.int (0 : Int32))])) _
    refine XS.ifNo X8.here hx rfl (hb hby at_151) rfl ((if0 _ _).trans (teq (rfl : (0 : Int32) = (0 : Int32))).2) ?_
    show Steps p.tables e below (T8.setTop (mkF m 154 #[.val (.long q0), .second, .val (.long q1), .second, .val (.long q2), .second, .val (.long q3), .second, .val (.int p4), .val (.int (3 : Int32)), .val (.ref b1), .val (.double (FP.ddiv (FP.l2d (own_mx (own_mx q0 q1) q2)) 4696837146684686336)), .second, .val (.long (own_mx (own_mx q0 q1) q2)), .second] [])) _
    refine XS.iconst X8.here hx rfl (hb hby at_154) ?_
    show Steps p.tables e below (T8.setTop (mkF m 155 #[.val (.long q0), .second, .val (.long q1), .second, .val (.long q2), .second, .val (.long q3), .second, .val (.int p4), .val (.int (3 : Int32)), .val (.ref b1), .val (.double (FP.ddiv (FP.l2d (own_mx (own_mx q0 q1) q2)) 4696837146684686336)), .second, .val (.long (own_mx (own_mx q0 q1) q2)), .second] [(.int (1 : Int32))])) _
    refine XS.goto X8.here hx rfl (pc0 := 155) (pc' := 159) rfl (hb hby at_155) (by decide) (by decide) ?_
    show Steps p.tables e below (T8.setTop (mkF m 159 #[.val (.long q0), .second, .val (.long q1), .second, .val (.long q2), .second, .val (.long q3), .second, .val (.int p4), .val (.int (3 : Int32)), .val (.ref b1), .val (.double (FP.ddiv (FP.l2d (own_mx (own_mx q0 q1) q2)) 4696837146684686336)), .second, .val (.long (own_mx (own_mx q0 q1) q2)), .second] [(.int (1 : Int32))])) _
    exact retN X8 hx (t := .boolean) Bd.returns (by simp) (hb hby at_159) hr
  · show Q_rm0_3 Z q0 q1 q2 q3 p4 h0 n0 _ T8.heap _
    rw [e8]
    exact ⟨rfl, N8⟩
def Q_rm0_4 (Z : State) (q0 : Int64) (q1 : Int64) (q2 : Int64) (q3 : Int64) (p4 : Int32) (h0 : Heap) (n0 : Nat) (v : Option Value) (h : Heap) (L : List Loc) : Prop := v = some (.int (1 : Int32)) ∧ Fr n0 L
theorem ef_rm0_4 (m : MethodId) (q0 : Int64) (q1 : Int64) (q2 : Int64) (q3 : Int64) (p4 : Int32) : entryFrame m #[(.long q0), (.long q1), (.long q2), (.long q3), (.int p4)] maxLocals = mkF m 0 #[.val (.long q0), .second, .val (.long q1), .second, .val (.long q2), .second, .val (.long q3), .second, .val (.int p4), .unset, .unset, .unset, .unset, .unset, .unset] [] := by first | (simp [entryFrame, mkF, argsToLocals, Value.category, maxLocals]; done) | rfl
set_option maxRecDepth 65536 in
set_option maxHeartbeats 40000000 in
theorem rm0_4 (l : Launch) (Z : State) (a0 : Array Value) (hw : ∀ d ∈ tables_1, d.before a0 Z = true) (ws : List Jvm.Cond) (q0 : Int64) (q1 : Int64) (q2 : Int64) (q3 : Int64) (p4 : Int32) (h0 : Heap) (n0 : Nat) (Z0 : n0 ≤ h0.size) (hn : ((p4 &&& (2147483647 : Int32)) % (5 : Int32)) = (4 : Int32)) :
    MetFree l x (head1 (Jvm.Cond.code x code maxLocals ret :: ws) room_1) (fun a U => a = #[(.long q0), (.long q1), (.long q2), (.long q3), (.int p4)] ∧ Z.Warmed39 U.vm ∧ U.heap = h0) (fun _ _ _ _ _ => True) (fun _ U o U' => ∃ v L, o = .returned v ∧ Q_rm0_4 Z q0 q1 q2 q3 p4 h0 n0 v U'.heap L ∧ FrameEnd U o U' L room_1.cells room_1.slots) := by
  refine MetFree.of_bodySF (plainFor_of_name pn_4) hisR ?_
  intro p e s m args below meth c s₁ Bd hml0 hP hK
  obtain ⟨rfl, hZ, hh⟩ := hP
  have hx := Bd.exec
  have hby := Bd.bytes
  have hml : c.maxLocals = 15 := hml0
  have hown : s.vm.findClass "com/example/tolc/tolc/RecentResponseTimesAddPinLaw" = some m.cls := findClass_of_methodNamed Bd.named
  have hnm := (name_of_methodNamed Bd.named Bd.method).1
  have X0 : Stand p l e room_1 s m #[(.long q0), (.long q1), (.long q2), (.long q3), (.int p4)] below meth c s₁ [] 0 0 := Stand.of_body Bd
  have e0 : s₁.heap = h0 := by rw [← hh, Bd.state]; rfl
  have N0 := Fr.nil n0
  have pre0 : ∀ t, Steps p.tables e below (s₁.setTop (mkF m 0 #[.val (.long q0), .second, .val (.long q1), .second, .val (.long q2), .second, .val (.long q3), .second, .val (.int p4), .unset, .unset, .unset, .unset, .unset, .unset] [])) t → Steps p.tables e below (s₁.setTop (entryFrame m #[(.long q0), (.long q1), (.long q2), (.long q3), (.int p4)] maxLocals)) t := fun t k => castTop (ef_rm0_4 m q0 q1 q2 q3 p4) k
  obtain ⟨T1, h1, X1, e1, E1, A1, D1, -, st1⟩ := newO X0 hx hZ hown (hw _ (List.mem_of_getElem? (i := 1) rfl)) (hw _ (List.mem_of_getElem? (i := 2) rfl)) (hw _ (List.mem_of_getElem? (i := 3) rfl)) e0 (g := (mkF m 9 #[.val (.long q0), .second, .val (.long q1), .second, .val (.long q2), .second, .val (.long q3), .second, .val (.int p4), .val (.int (4 : Int32)), .unset, .unset, .unset, .unset, .unset] [])) rfl (hb hby at_9) (by decide) (by decide)
  obtain ⟨b1, g1⟩ : ∃ z, z = h0.size := ⟨_, rfl⟩
  rw [← g1] at A1 D1 st1
  have F1_1 : Fld Z h1 b1 "com/example/tolc/tolc/RecentResponseTimes" "nanos" "[J" .null := D1 (Or.inr (hw _ (List.mem_of_getElem? (i := 12) rfl))) (ty := (.array .long)) (by decide)
  have F1_2 : Fld Z h1 b1 "com/example/tolc/tolc/RecentResponseTimes" "next" "I" (.int (0 : Int32)) := D1 (Or.inl (hw _ (List.mem_of_getElem? (i := 19) rfl))) (ty := .int) (by decide)
  have F1_3 : Fld Z h1 b1 "com/example/tolc/tolc/RecentResponseTimes" "size" "I" (.int (0 : Int32)) := D1 (Or.inl (hw _ (List.mem_of_getElem? (i := 21) rfl))) (ty := .int) (by decide)
  obtain ⟨_, _, ⟨T2, L2, k2, n2⟩, -, X2, ⟨Lc2, hQ2, l2, y2, z2⟩, st2⟩ := X1.specialBack hx (y := (⟨"com/example/tolc/tolc/RecentResponseTimes", "<init>", "()V"⟩ : MethodName)) rfl hown (mvT hZ (hw _ (List.mem_of_getElem? (i := 4) rfl))) (mvT hZ (hw _ (List.mem_of_getElem? (i := 5) rfl))) (mvT hZ (hw _ (List.mem_of_getElem? (i := 6) rfl))) (by decide) (backOf (W := 1) (rmI l Z a0 hw [] b1 .null h1 n0 (Nat.le_trans Z0 E1.1) F1_2 F1_3 F1_1 A1 (Nat.le_trans Z0 (Nat.le_of_eq g1.symm))) hZ (hw _ (List.mem_of_getElem? (i := 6) rfl)) (hw _ (List.mem_of_getElem? (i := 3) rfl)) (by decide) (by decide)) (g := (mkF m 13 #[.val (.long q0), .second, .val (.long q1), .second, .val (.long q2), .second, .val (.long q3), .second, .val (.int p4), .val (.int (4 : Int32)), .unset, .unset, .unset, .unset, .unset] [(.ref b1), (.ref b1)])) rfl (by rw [hml]; rfl) (Steps.refl _) (a := b1) (argsL := []) (rest := [(.ref b1)]) (lenOf pd_7 rfl) rfl (by show 2 * 0 + _ ≤ _; exact Nat.le_of_eq rfl) (hb hby at_13) (fun _ _ => ⟨rfl, e1, (by decide : 1 + 1 ≤ _), (by decide : 3 + 100 ≤ _)⟩)
  dsimp only [Pt.U, Pt.locs, Pt.cells, Pt.slots] at X2 l2 y2 z2 st2 hQ2
  subst l2 y2 z2
  obtain ⟨na_2, ka_2, rfl, Nq2, gb2_0, Kp2, Fq2_0, Fq2_1, Fq2_2, Fq2_3, Fq2_4⟩ := hQ2
  have N2 := Fr.app N0 Nq2
  obtain ⟨cq3, kq3, q3a, q3b, q3c⟩ := isOf hZ rfl Fq2_0
  obtain ⟨_, _, ⟨T3, L3, k3, n3⟩, -, X3, ⟨Lc3, hQ3, l3, y3, z3⟩, st3⟩ := X2.virtualBack hx (y := (⟨"com/example/tolc/tolc/RecentResponseTimes", "add", "(J)V"⟩ : MethodName)) (z := (⟨"com/example/tolc/tolc/RecentResponseTimes", "add", "(J)V"⟩ : MethodName)) hown (mvT hZ (hw _ (List.mem_of_getElem? (i := 13) rfl))) (mvT hZ (hw _ (List.mem_of_getElem? (i := 14) rfl))) (notFace_of_selects (args := #[]) (mvT hZ (hw _ (List.mem_of_getElem? (i := 16) rfl)))) (mvT hZ (hw _ (List.mem_of_getElem? (i := 16) rfl))) (mvT hZ (hw _ (List.mem_of_getElem? (i := 15) rfl))) (by decide) (backOf (W := 0) (rmA0 l Z a0 hw [] b1 q0 na_2 ka_2 (0 : Int64) (0 : Int64) (0 : Int64) (0 : Int64) T2.heap n0 (Nat.le_trans (Nat.le_trans Z0 E1.1) Kp2.1) Fq2_0 Fq2_1 Fq2_2 Fq2_3 Fq2_4 (Nat.le_trans (Nat.le_trans Z0 E1.1) gb2_0) (Nat.ne_of_lt (Nat.lt_of_lt_of_le A1.lt gb2_0)) (Nat.le_trans Z0 (Nat.le_of_eq g1.symm))) hZ (hw _ (List.mem_of_getElem? (i := 17) rfl)) (hw _ (List.mem_of_getElem? (i := 3) rfl)) (by decide) (by decide)) q3a q3c (g := (mkF m 27 #[.val (.long q0), .second, .val (.long q1), .second, .val (.long q2), .second, .val (.long q3), .second, .val (.int p4), .val (.int (4 : Int32)), .val (.ref b1), .unset, .unset, .unset, .unset] [(.long q0), (.ref b1)])) rfl (by rw [hml]; rfl) (Steps.refl _) (argsL := [(.long q0)]) (rest := []) (lenOf pd_9 rfl) rfl (by show 2 * 0 + _ ≤ _; exact Nat.le_of_eq rfl) (hb hby at_27) (fun _ _ => ⟨rfl, rfl, (by decide : 2 + 0 ≤ _), (by decide : 103 + 0 ≤ _)⟩)
  dsimp only [Pt.U, Pt.locs, Pt.cells, Pt.slots] at X3 l3 y3 z3 st3 hQ3
  subst l3 y3 z3
  obtain ⟨rfl, Nq3, Kp3, Fq3_0, Fq3_1, Fq3_2, Fq3_3, Fq3_4⟩ := hQ3
  have N3 := Fr.app N2 Nq3
  obtain ⟨cq4, kq4, q4a, q4b, q4c⟩ := isOf hZ rfl Fq3_0
  obtain ⟨_, _, ⟨T4, L4, k4, n4⟩, -, X4, ⟨Lc4, hQ4, l4, y4, z4⟩, st4⟩ := X3.virtualBack hx (y := (⟨"com/example/tolc/tolc/RecentResponseTimes", "add", "(J)V"⟩ : MethodName)) (z := (⟨"com/example/tolc/tolc/RecentResponseTimes", "add", "(J)V"⟩ : MethodName)) hown (mvT hZ (hw _ (List.mem_of_getElem? (i := 13) rfl))) (mvT hZ (hw _ (List.mem_of_getElem? (i := 14) rfl))) (notFace_of_selects (args := #[]) (mvT hZ (hw _ (List.mem_of_getElem? (i := 16) rfl)))) (mvT hZ (hw _ (List.mem_of_getElem? (i := 16) rfl))) (mvT hZ (hw _ (List.mem_of_getElem? (i := 15) rfl))) (by decide) (backOf (W := 0) (rmA1 l Z a0 hw [] b1 q1 na_2 ka_2 q0 (0 : Int64) (0 : Int64) (0 : Int64) T3.heap n0 (Nat.le_trans (Nat.le_trans (Nat.le_trans Z0 E1.1) Kp2.1) Kp3.1) Fq3_0 Fq3_1 Fq3_2 Fq3_3 Fq3_4 (Nat.le_trans (Nat.le_trans Z0 E1.1) gb2_0) (Nat.ne_of_lt (Nat.lt_of_lt_of_le A1.lt gb2_0)) (Nat.le_trans Z0 (Nat.le_of_eq g1.symm))) hZ (hw _ (List.mem_of_getElem? (i := 17) rfl)) (hw _ (List.mem_of_getElem? (i := 3) rfl)) (by decide) (by decide)) q4a q4c (g := (mkF m 39 #[.val (.long q0), .second, .val (.long q1), .second, .val (.long q2), .second, .val (.long q3), .second, .val (.int p4), .val (.int (4 : Int32)), .val (.ref b1), .unset, .unset, .unset, .unset] [(.long q1), (.ref b1)])) rfl (by rw [hml]; rfl) (Steps.refl _) (argsL := [(.long q1)]) (rest := []) (lenOf pd_9 rfl) rfl (by show 2 * 0 + _ ≤ _; exact Nat.le_of_eq rfl) (hb hby at_39) (fun _ _ => ⟨rfl, rfl, (by decide : 2 + 0 ≤ _), (by decide : 103 + 0 ≤ _)⟩)
  dsimp only [Pt.U, Pt.locs, Pt.cells, Pt.slots] at X4 l4 y4 z4 st4 hQ4
  subst l4 y4 z4
  obtain ⟨rfl, Nq4, Kp4, Fq4_0, Fq4_1, Fq4_2, Fq4_3, Fq4_4⟩ := hQ4
  have N4 := Fr.app N3 Nq4
  obtain ⟨cq5, kq5, q5a, q5b, q5c⟩ := isOf hZ rfl Fq4_0
  obtain ⟨_, _, ⟨T5, L5, k5, n5⟩, -, X5, ⟨Lc5, hQ5, l5, y5, z5⟩, st5⟩ := X4.virtualBack hx (y := (⟨"com/example/tolc/tolc/RecentResponseTimes", "add", "(J)V"⟩ : MethodName)) (z := (⟨"com/example/tolc/tolc/RecentResponseTimes", "add", "(J)V"⟩ : MethodName)) hown (mvT hZ (hw _ (List.mem_of_getElem? (i := 13) rfl))) (mvT hZ (hw _ (List.mem_of_getElem? (i := 14) rfl))) (notFace_of_selects (args := #[]) (mvT hZ (hw _ (List.mem_of_getElem? (i := 16) rfl)))) (mvT hZ (hw _ (List.mem_of_getElem? (i := 16) rfl))) (mvT hZ (hw _ (List.mem_of_getElem? (i := 15) rfl))) (by decide) (backOf (W := 0) (rmA2 l Z a0 hw [] b1 q2 na_2 ka_2 q0 q1 (0 : Int64) (0 : Int64) T4.heap n0 (Nat.le_trans (Nat.le_trans (Nat.le_trans (Nat.le_trans Z0 E1.1) Kp2.1) Kp3.1) Kp4.1) Fq4_0 Fq4_1 Fq4_2 Fq4_3 Fq4_4 (Nat.le_trans (Nat.le_trans Z0 E1.1) gb2_0) (Nat.ne_of_lt (Nat.lt_of_lt_of_le A1.lt gb2_0)) (Nat.le_trans Z0 (Nat.le_of_eq g1.symm))) hZ (hw _ (List.mem_of_getElem? (i := 17) rfl)) (hw _ (List.mem_of_getElem? (i := 3) rfl)) (by decide) (by decide)) q5a q5c (g := (mkF m 52 #[.val (.long q0), .second, .val (.long q1), .second, .val (.long q2), .second, .val (.long q3), .second, .val (.int p4), .val (.int (4 : Int32)), .val (.ref b1), .unset, .unset, .unset, .unset] [(.long q2), (.ref b1)])) rfl (by rw [hml]; rfl) (Steps.refl _) (argsL := [(.long q2)]) (rest := []) (lenOf pd_9 rfl) rfl (by show 2 * 0 + _ ≤ _; exact Nat.le_of_eq rfl) (hb hby at_52) (fun _ _ => ⟨rfl, rfl, (by decide : 2 + 0 ≤ _), (by decide : 103 + 0 ≤ _)⟩)
  dsimp only [Pt.U, Pt.locs, Pt.cells, Pt.slots] at X5 l5 y5 z5 st5 hQ5
  subst l5 y5 z5
  obtain ⟨rfl, Nq5, Kp5, Fq5_0, Fq5_1, Fq5_2, Fq5_3, Fq5_4⟩ := hQ5
  have N5 := Fr.app N4 Nq5
  obtain ⟨cq6, kq6, q6a, q6b, q6c⟩ := isOf hZ rfl Fq5_0
  obtain ⟨_, _, ⟨T6, L6, k6, n6⟩, -, X6, ⟨Lc6, hQ6, l6, y6, z6⟩, st6⟩ := X5.virtualBack hx (y := (⟨"com/example/tolc/tolc/RecentResponseTimes", "add", "(J)V"⟩ : MethodName)) (z := (⟨"com/example/tolc/tolc/RecentResponseTimes", "add", "(J)V"⟩ : MethodName)) hown (mvT hZ (hw _ (List.mem_of_getElem? (i := 13) rfl))) (mvT hZ (hw _ (List.mem_of_getElem? (i := 14) rfl))) (notFace_of_selects (args := #[]) (mvT hZ (hw _ (List.mem_of_getElem? (i := 16) rfl)))) (mvT hZ (hw _ (List.mem_of_getElem? (i := 16) rfl))) (mvT hZ (hw _ (List.mem_of_getElem? (i := 15) rfl))) (by decide) (backOf (W := 0) (rmA3 l Z a0 hw [] b1 q3 na_2 ka_2 q0 q1 q2 (0 : Int64) T5.heap n0 (Nat.le_trans (Nat.le_trans (Nat.le_trans (Nat.le_trans (Nat.le_trans Z0 E1.1) Kp2.1) Kp3.1) Kp4.1) Kp5.1) Fq5_0 Fq5_1 Fq5_2 Fq5_3 Fq5_4 (Nat.le_trans (Nat.le_trans Z0 E1.1) gb2_0) (Nat.ne_of_lt (Nat.lt_of_lt_of_le A1.lt gb2_0)) (Nat.le_trans Z0 (Nat.le_of_eq g1.symm))) hZ (hw _ (List.mem_of_getElem? (i := 17) rfl)) (hw _ (List.mem_of_getElem? (i := 3) rfl)) (by decide) (by decide)) q6a q6c (g := (mkF m 65 #[.val (.long q0), .second, .val (.long q1), .second, .val (.long q2), .second, .val (.long q3), .second, .val (.int p4), .val (.int (4 : Int32)), .val (.ref b1), .unset, .unset, .unset, .unset] [(.long q3), (.ref b1)])) rfl (by rw [hml]; rfl) (Steps.refl _) (argsL := [(.long q3)]) (rest := []) (lenOf pd_9 rfl) rfl (by show 2 * 0 + _ ≤ _; exact Nat.le_of_eq rfl) (hb hby at_65) (fun _ _ => ⟨rfl, rfl, (by decide : 2 + 0 ≤ _), (by decide : 103 + 0 ≤ _)⟩)
  dsimp only [Pt.U, Pt.locs, Pt.cells, Pt.slots] at X6 l6 y6 z6 st6 hQ6
  subst l6 y6 z6
  obtain ⟨rfl, Nq6, Kp6, Fq6_0, Fq6_1, Fq6_2, Fq6_3, Fq6_4⟩ := hQ6
  have N6 := Fr.app N5 Nq6
  obtain ⟨cq7, kq7, q7a, q7b, q7c⟩ := isOf hZ rfl Fq6_0
  obtain ⟨_, _, ⟨T7, L7, k7, n7⟩, -, X7, ⟨Lc7, hQ7, l7, y7, z7⟩, st7⟩ := X6.virtualBack hx (y := (⟨"com/example/tolc/tolc/RecentResponseTimes", "p90Millis", "()D"⟩ : MethodName)) (z := (⟨"com/example/tolc/tolc/RecentResponseTimes", "p90Millis", "()D"⟩ : MethodName)) hown (mvT hZ (hw _ (List.mem_of_getElem? (i := 26) rfl))) (mvT hZ (hw _ (List.mem_of_getElem? (i := 27) rfl))) (notFace_of_selects (args := #[]) (mvT hZ (hw _ (List.mem_of_getElem? (i := 29) rfl)))) (mvT hZ (hw _ (List.mem_of_getElem? (i := 29) rfl))) (mvT hZ (hw _ (List.mem_of_getElem? (i := 28) rfl))) (by decide) (backOf (W := 0) (rmP4 l Z a0 hw [] b1 na_2 ka_2 q0 q1 q2 q3 T6.heap n0 (Nat.le_trans (Nat.le_trans (Nat.le_trans (Nat.le_trans (Nat.le_trans (Nat.le_trans Z0 E1.1) Kp2.1) Kp3.1) Kp4.1) Kp5.1) Kp6.1) Fq6_0 Fq6_1 Fq6_3 Fq6_4) hZ (hw _ (List.mem_of_getElem? (i := 30) rfl)) (hw _ (List.mem_of_getElem? (i := 3) rfl)) (by decide) (by decide)) q7a q7c (g := (mkF m 70 #[.val (.long q0), .second, .val (.long q1), .second, .val (.long q2), .second, .val (.long q3), .second, .val (.int p4), .val (.int (4 : Int32)), .val (.ref b1), .unset, .unset, .unset, .unset] [(.ref b1)])) rfl (by rw [hml]; rfl) (Steps.refl _) (argsL := []) (rest := []) (lenOf pd_8 rfl) rfl (by show 2 * 0 + _ ≤ _; exact Nat.le_of_eq rfl) (hb hby at_70) (fun _ _ => ⟨rfl, rfl, (by decide : 2 + 1 ≤ _), (by decide : 103 + 4 ≤ _)⟩)
  dsimp only [Pt.U, Pt.locs, Pt.cells, Pt.slots] at X7 l7 y7 z7 st7 hQ7
  subst l7 y7 z7
  obtain ⟨rfl, Nq7, Kp7⟩ := hQ7
  have N7 := Fr.app N6 Nq7
  obtain ⟨_, _, ⟨T8, L8, k8, n8⟩, -, X8, ⟨Lc8, hQ8, l8, y8, z8⟩, st8⟩ := Jvm.LawKit.callS X7 hx (y := (⟨"java/lang/Math", "max", "(JJ)J"⟩ : MethodName)) hown (mvT hZ (hw _ (List.mem_of_getElem? (i := 60) rfl))) (mvT hZ (hw _ (List.mem_of_getElem? (i := 61) rfl))) (mvT hZ (hw _ (List.mem_of_getElem? (i := 24) rfl))) (mvT hZ (hw _ (List.mem_of_getElem? (i := 62) rfl))) (by decide) (backOf (W := 0) (rmaxL l Z a0 hw [] q0 q1 T7.heap n0 (Nat.le_trans (Nat.le_trans (Nat.le_trans (Nat.le_trans (Nat.le_trans (Nat.le_trans (Nat.le_trans Z0 E1.1) Kp2.1) Kp3.1) Kp4.1) Kp5.1) Kp6.1) Kp7.1)) hZ (hw _ (List.mem_of_getElem? (i := 62) rfl)) (hw _ (List.mem_of_getElem? (i := 24) rfl)) (by decide) (by decide)) (g := (mkF m 106 #[.val (.long q0), .second, .val (.long q1), .second, .val (.long q2), .second, .val (.long q3), .second, .val (.int p4), .val (.int (4 : Int32)), .val (.ref b1), .val (.double (FP.ddiv (FP.l2d (own_mx (own_mx (own_mx q0 q1) q2) q3)) 4696837146684686336)), .second, .val (.long q0), .second] [(.long q1), (.long q0)])) rfl (by rw [hml]; rfl) (argsL := [(.long q0), (.long q1)]) (rest := []) (lenOf pd_10 rfl) rfl (by show 2 * 0 + _ ≤ _; exact Nat.le_of_eq rfl) (hb hby at_106) (fun _ _ => ⟨rfl, rfl, (by decide : 3 + 0 ≤ _), (by decide : 107 + 0 ≤ _)⟩)
  dsimp only [Pt.U, Pt.locs, Pt.cells, Pt.slots] at X8 l8 y8 z8 st8 hQ8
  subst l8 y8 z8
  obtain ⟨rfl, Nq8, e8⟩ := hQ8
  have N8 := Fr.app N7 Nq8
  obtain ⟨_, _, ⟨T9, L9, k9, n9⟩, -, X9, ⟨Lc9, hQ9, l9, y9, z9⟩, st9⟩ := Jvm.LawKit.callS X8 hx (y := (⟨"java/lang/Math", "max", "(JJ)J"⟩ : MethodName)) hown (mvT hZ (hw _ (List.mem_of_getElem? (i := 60) rfl))) (mvT hZ (hw _ (List.mem_of_getElem? (i := 61) rfl))) (mvT hZ (hw _ (List.mem_of_getElem? (i := 24) rfl))) (mvT hZ (hw _ (List.mem_of_getElem? (i := 62) rfl))) (by decide) (backOf (W := 0) (rmaxL l Z a0 hw [] (own_mx q0 q1) q2 T7.heap n0 (Nat.le_trans (Nat.le_trans (Nat.le_trans (Nat.le_trans (Nat.le_trans (Nat.le_trans (Nat.le_trans Z0 E1.1) Kp2.1) Kp3.1) Kp4.1) Kp5.1) Kp6.1) Kp7.1)) hZ (hw _ (List.mem_of_getElem? (i := 62) rfl)) (hw _ (List.mem_of_getElem? (i := 24) rfl)) (by decide) (by decide)) (g := (mkF m 121 #[.val (.long q0), .second, .val (.long q1), .second, .val (.long q2), .second, .val (.long q3), .second, .val (.int p4), .val (.int (4 : Int32)), .val (.ref b1), .val (.double (FP.ddiv (FP.l2d (own_mx (own_mx (own_mx q0 q1) q2) q3)) 4696837146684686336)), .second, .val (.long (own_mx q0 q1)), .second] [(.long q2), (.long (own_mx q0 q1))])) rfl (by rw [hml]; rfl) (argsL := [(.long (own_mx q0 q1)), (.long q2)]) (rest := []) (lenOf pd_10 rfl) rfl (by show 2 * 0 + _ ≤ _; exact Nat.le_of_eq rfl) (hb hby at_121) (fun _ _ => ⟨rfl, e8, (by decide : 3 + 0 ≤ _), (by decide : 107 + 0 ≤ _)⟩)
  dsimp only [Pt.U, Pt.locs, Pt.cells, Pt.slots] at X9 l9 y9 z9 st9 hQ9
  subst l9 y9 z9
  obtain ⟨rfl, Nq9, e9⟩ := hQ9
  have N9 := Fr.app N8 Nq9
  obtain ⟨_, _, ⟨T10, L10, k10, n10⟩, -, X10, ⟨Lc10, hQ10, l10, y10, z10⟩, st10⟩ := Jvm.LawKit.callS X9 hx (y := (⟨"java/lang/Math", "max", "(JJ)J"⟩ : MethodName)) hown (mvT hZ (hw _ (List.mem_of_getElem? (i := 60) rfl))) (mvT hZ (hw _ (List.mem_of_getElem? (i := 61) rfl))) (mvT hZ (hw _ (List.mem_of_getElem? (i := 24) rfl))) (mvT hZ (hw _ (List.mem_of_getElem? (i := 62) rfl))) (by decide) (backOf (W := 0) (rmaxL l Z a0 hw [] (own_mx (own_mx q0 q1) q2) q3 T7.heap n0 (Nat.le_trans (Nat.le_trans (Nat.le_trans (Nat.le_trans (Nat.le_trans (Nat.le_trans (Nat.le_trans Z0 E1.1) Kp2.1) Kp3.1) Kp4.1) Kp5.1) Kp6.1) Kp7.1)) hZ (hw _ (List.mem_of_getElem? (i := 62) rfl)) (hw _ (List.mem_of_getElem? (i := 24) rfl)) (by decide) (by decide)) (g := (mkF m 136 #[.val (.long q0), .second, .val (.long q1), .second, .val (.long q2), .second, .val (.long q3), .second, .val (.int p4), .val (.int (4 : Int32)), .val (.ref b1), .val (.double (FP.ddiv (FP.l2d (own_mx (own_mx (own_mx q0 q1) q2) q3)) 4696837146684686336)), .second, .val (.long (own_mx (own_mx q0 q1) q2)), .second] [(.long q3), (.long (own_mx (own_mx q0 q1) q2))])) rfl (by rw [hml]; rfl) (argsL := [(.long (own_mx (own_mx q0 q1) q2)), (.long q3)]) (rest := []) (lenOf pd_10 rfl) rfl (by show 2 * 0 + _ ≤ _; exact Nat.le_of_eq rfl) (hb hby at_136) (fun _ _ => ⟨rfl, e9, (by decide : 3 + 0 ≤ _), (by decide : 107 + 0 ≤ _)⟩)
  dsimp only [Pt.U, Pt.locs, Pt.cells, Pt.slots] at X10 l10 y10 z10 st10 hQ10
  subst l10 y10 z10
  obtain ⟨rfl, Nq10, e10⟩ := hQ10
  have N10 := Fr.app N9 Nq10
  obtain ⟨fs, hr, hrun, hended, hW, hsame⟩ := X10.leave (v := some (.int (1 : Int32))) (fun h => by rw [Bd.returns] at h; cases h)
  refine ⟨_, _, pre0 _ ?_, hrun, hended, _, _, rfl, ?_, ⟨_, rfl⟩, hW, hsame.mono (by decide) (by decide)⟩
  · show Steps p.tables e below (s₁.setTop (mkF m 0 #[.val (.long q0), .second, .val (.long q1), .second, .val (.long q2), .second, .val (.long q3), .second, .val (.int p4), .unset, .unset, .unset, .unset, .unset, .unset] [])) _
    refine XS.iload X0.here hx rfl (hb hby at_0) rfl ?_
    show Steps p.tables e below (s₁.setTop (mkF m 2 #[.val (.long q0), .second, .val (.long q1), .second, .val (.long q2), .second, .val (.long q3), .second, .val (.int p4), .unset, .unset, .unset, .unset, .unset, .unset] [(.int p4)])) _
    refine X0.ldcInt hx hown (mvT hZ (hw _ (List.mem_of_getElem? (i := 0) rfl))) (g := (mkF m 2 #[.val (.long q0), .second, .val (.long q1), .second, .val (.long q2), .second, .val (.long q3), .second, .val (.int p4), .unset, .unset, .unset, .unset, .unset, .unset] [(.int p4)])) rfl (hb hby at_2) _ ?_
    show Steps p.tables e below (s₁.setTop (mkF m 4 #[.val (.long q0), .second, .val (.long q1), .second, .val (.long q2), .second, .val (.long q3), .second, .val (.int p4), .unset, .unset, .unset, .unset, .unset, .unset] [(.int (2147483647 : Int32)), (.int p4)])) _
    refine XS.iand X0.here hx rfl (hb hby at_4) rfl ?_
    show Steps p.tables e below (s₁.setTop (mkF m 5 #[.val (.long q0), .second, .val (.long q1), .second, .val (.long q2), .second, .val (.long q3), .second, .val (.int p4), .unset, .unset, .unset, .unset, .unset, .unset] [(.int (p4 &&& (2147483647 : Int32)))])) _
    refine XS.iconst X0.here hx rfl (hb hby at_5) ?_
    show Steps p.tables e below (s₁.setTop (mkF m 6 #[.val (.long q0), .second, .val (.long q1), .second, .val (.long q2), .second, .val (.long q3), .second, .val (.int p4), .unset, .unset, .unset, .unset, .unset, .unset] [(.int (5 : Int32)), (.int (p4 &&& (2147483647 : Int32)))])) _
    refine iremM X0 hx (g := (mkF m 6 #[.val (.long q0), .second, .val (.long q1), .second, .val (.long q2), .second, .val (.long q3), .second, .val (.int p4), .unset, .unset, .unset, .unset, .unset, .unset] [(.int (5 : Int32)), (.int (p4 &&& (2147483647 : Int32)))])) rfl (hb hby at_6) rfl (by decide) ?_
    show Steps p.tables e below (s₁.setTop (mkF m 7 #[.val (.long q0), .second, .val (.long q1), .second, .val (.long q2), .second, .val (.long q3), .second, .val (.int p4), .unset, .unset, .unset, .unset, .unset, .unset] [(.int ((p4 &&& (2147483647 : Int32)) % (5 : Int32)))])) _
    rw [hn]
    show Steps p.tables e below (s₁.setTop (mkF m 7 #[.val (.long q0), .second, .val (.long q1), .second, .val (.long q2), .second, .val (.long q3), .second, .val (.int p4), .unset, .unset, .unset, .unset, .unset, .unset] [(.int (4 : Int32))])) _
    refine XS.istore X0.here hx rfl (hb hby at_7) rfl (l' := #[.val (.long q0), .second, .val (.long q1), .second, .val (.long q2), .second, .val (.long q3), .second, .val (.int p4), .val (.int (4 : Int32)), .unset, .unset, .unset, .unset, .unset]) rfl ?_
    show Steps p.tables e below (s₁.setTop (mkF m 9 #[.val (.long q0), .second, .val (.long q1), .second, .val (.long q2), .second, .val (.long q3), .second, .val (.int p4), .val (.int (4 : Int32)), .unset, .unset, .unset, .unset, .unset] [])) _
    refine st1 _ ?_
    show Steps p.tables e below (T1.setTop (mkF m 12 #[.val (.long q0), .second, .val (.long q1), .second, .val (.long q2), .second, .val (.long q3), .second, .val (.int p4), .val (.int (4 : Int32)), .unset, .unset, .unset, .unset, .unset] [(.ref b1)])) _
    refine XS.dup X1.here hx rfl (hb hby at_12) rfl rfl ?_
    show Steps p.tables e below (T1.setTop (mkF m 13 #[.val (.long q0), .second, .val (.long q1), .second, .val (.long q2), .second, .val (.long q3), .second, .val (.int p4), .val (.int (4 : Int32)), .unset, .unset, .unset, .unset, .unset] [(.ref b1), (.ref b1)])) _
    refine st2.trans ?_
    show Steps p.tables e below (T2.setTop (mkF m 16 #[.val (.long q0), .second, .val (.long q1), .second, .val (.long q2), .second, .val (.long q3), .second, .val (.int p4), .val (.int (4 : Int32)), .unset, .unset, .unset, .unset, .unset] [(.ref b1)])) _
    refine XS.astore X2.here hx rfl (hb hby at_16) rfl rfl (l' := #[.val (.long q0), .second, .val (.long q1), .second, .val (.long q2), .second, .val (.long q3), .second, .val (.int p4), .val (.int (4 : Int32)), .val (.ref b1), .unset, .unset, .unset, .unset]) rfl ?_
    show Steps p.tables e below (T2.setTop (mkF m 18 #[.val (.long q0), .second, .val (.long q1), .second, .val (.long q2), .second, .val (.long q3), .second, .val (.int p4), .val (.int (4 : Int32)), .val (.ref b1), .unset, .unset, .unset, .unset] [])) _
    refine XS.iload X2.here hx rfl (hb hby at_18) rfl ?_
    show Steps p.tables e below (T2.setTop (mkF m 20 #[.val (.long q0), .second, .val (.long q1), .second, .val (.long q2), .second, .val (.long q3), .second, .val (.int p4), .val (.int (4 : Int32)), .val (.ref b1), .unset, .unset, .unset, .unset] [(.int (4 : Int32))])) _
    refine XS.iconst X2.here hx rfl (hb hby at_20) ?_
    show Steps p.tables e below (T2.setTop (mkF m 21 #[.val (.long q0), .second, .val (.long q1), .second, .val (.long q2), .second, .val (.long q3), .second, .val (.int p4), .val (.int (4 : Int32)), .val (.ref b1), .unset, .unset, .unset, .unset] [(.int (1 : Int32)), (.int (4 : Int32))])) _
    refine XS.icmpNo X2.here hx rfl (hb hby at_21) rfl (flt (by decide : ¬ ((4 : Int32) < (1 : Int32)))).1 ?_
    show Steps p.tables e below (T2.setTop (mkF m 24 #[.val (.long q0), .second, .val (.long q1), .second, .val (.long q2), .second, .val (.long q3), .second, .val (.int p4), .val (.int (4 : Int32)), .val (.ref b1), .unset, .unset, .unset, .unset] [])) _
    refine XS.aload X2.here hx rfl (hb hby at_24) rfl rfl ?_
    show Steps p.tables e below (T2.setTop (mkF m 26 #[.val (.long q0), .second, .val (.long q1), .second, .val (.long q2), .second, .val (.long q3), .second, .val (.int p4), .val (.int (4 : Int32)), .val (.ref b1), .unset, .unset, .unset, .unset] [(.ref b1)])) _
    refine XS.lloadN X2.here hx rfl (hb hby at_26) rfl ?_
    show Steps p.tables e below (T2.setTop (mkF m 27 #[.val (.long q0), .second, .val (.long q1), .second, .val (.long q2), .second, .val (.long q3), .second, .val (.int p4), .val (.int (4 : Int32)), .val (.ref b1), .unset, .unset, .unset, .unset] [(.long q0), (.ref b1)])) _
    refine st3.trans ?_
    show Steps p.tables e below (T3.setTop (mkF m 30 #[.val (.long q0), .second, .val (.long q1), .second, .val (.long q2), .second, .val (.long q3), .second, .val (.int p4), .val (.int (4 : Int32)), .val (.ref b1), .unset, .unset, .unset, .unset] [])) _
    refine XS.iload X3.here hx rfl (hb hby at_30) rfl ?_
    show Steps p.tables e below (T3.setTop (mkF m 32 #[.val (.long q0), .second, .val (.long q1), .second, .val (.long q2), .second, .val (.long q3), .second, .val (.int p4), .val (.int (4 : Int32)), .val (.ref b1), .unset, .unset, .unset, .unset] [(.int (4 : Int32))])) _
    refine XS.iconst X3.here hx rfl (hb hby at_32) ?_
    show Steps p.tables e below (T3.setTop (mkF m 33 #[.val (.long q0), .second, .val (.long q1), .second, .val (.long q2), .second, .val (.long q3), .second, .val (.int p4), .val (.int (4 : Int32)), .val (.ref b1), .unset, .unset, .unset, .unset] [(.int (2 : Int32)), (.int (4 : Int32))])) _
    refine XS.icmpNo X3.here hx rfl (hb hby at_33) rfl (flt (by decide : ¬ ((4 : Int32) < (2 : Int32)))).1 ?_
    show Steps p.tables e below (T3.setTop (mkF m 36 #[.val (.long q0), .second, .val (.long q1), .second, .val (.long q2), .second, .val (.long q3), .second, .val (.int p4), .val (.int (4 : Int32)), .val (.ref b1), .unset, .unset, .unset, .unset] [])) _
    refine XS.aload X3.here hx rfl (hb hby at_36) rfl rfl ?_
    show Steps p.tables e below (T3.setTop (mkF m 38 #[.val (.long q0), .second, .val (.long q1), .second, .val (.long q2), .second, .val (.long q3), .second, .val (.int p4), .val (.int (4 : Int32)), .val (.ref b1), .unset, .unset, .unset, .unset] [(.ref b1)])) _
    refine XS.lloadN X3.here hx rfl (hb hby at_38) rfl ?_
    show Steps p.tables e below (T3.setTop (mkF m 39 #[.val (.long q0), .second, .val (.long q1), .second, .val (.long q2), .second, .val (.long q3), .second, .val (.int p4), .val (.int (4 : Int32)), .val (.ref b1), .unset, .unset, .unset, .unset] [(.long q1), (.ref b1)])) _
    refine st4.trans ?_
    show Steps p.tables e below (T4.setTop (mkF m 42 #[.val (.long q0), .second, .val (.long q1), .second, .val (.long q2), .second, .val (.long q3), .second, .val (.int p4), .val (.int (4 : Int32)), .val (.ref b1), .unset, .unset, .unset, .unset] [])) _
    refine XS.iload X4.here hx rfl (hb hby at_42) rfl ?_
    show Steps p.tables e below (T4.setTop (mkF m 44 #[.val (.long q0), .second, .val (.long q1), .second, .val (.long q2), .second, .val (.long q3), .second, .val (.int p4), .val (.int (4 : Int32)), .val (.ref b1), .unset, .unset, .unset, .unset] [(.int (4 : Int32))])) _
    refine XS.iconst X4.here hx rfl (hb hby at_44) ?_
    show Steps p.tables e below (T4.setTop (mkF m 45 #[.val (.long q0), .second, .val (.long q1), .second, .val (.long q2), .second, .val (.long q3), .second, .val (.int p4), .val (.int (4 : Int32)), .val (.ref b1), .unset, .unset, .unset, .unset] [(.int (3 : Int32)), (.int (4 : Int32))])) _
    refine XS.icmpNo X4.here hx rfl (hb hby at_45) rfl (flt (by decide : ¬ ((4 : Int32) < (3 : Int32)))).1 ?_
    show Steps p.tables e below (T4.setTop (mkF m 48 #[.val (.long q0), .second, .val (.long q1), .second, .val (.long q2), .second, .val (.long q3), .second, .val (.int p4), .val (.int (4 : Int32)), .val (.ref b1), .unset, .unset, .unset, .unset] [])) _
    refine XS.aload X4.here hx rfl (hb hby at_48) rfl rfl ?_
    show Steps p.tables e below (T4.setTop (mkF m 50 #[.val (.long q0), .second, .val (.long q1), .second, .val (.long q2), .second, .val (.long q3), .second, .val (.int p4), .val (.int (4 : Int32)), .val (.ref b1), .unset, .unset, .unset, .unset] [(.ref b1)])) _
    refine XS.lload X4.here hx rfl (hb hby at_50) rfl ?_
    show Steps p.tables e below (T4.setTop (mkF m 52 #[.val (.long q0), .second, .val (.long q1), .second, .val (.long q2), .second, .val (.long q3), .second, .val (.int p4), .val (.int (4 : Int32)), .val (.ref b1), .unset, .unset, .unset, .unset] [(.long q2), (.ref b1)])) _
    refine st5.trans ?_
    show Steps p.tables e below (T5.setTop (mkF m 55 #[.val (.long q0), .second, .val (.long q1), .second, .val (.long q2), .second, .val (.long q3), .second, .val (.int p4), .val (.int (4 : Int32)), .val (.ref b1), .unset, .unset, .unset, .unset] [])) _
    refine XS.iload X5.here hx rfl (hb hby at_55) rfl ?_
    show Steps p.tables e below (T5.setTop (mkF m 57 #[.val (.long q0), .second, .val (.long q1), .second, .val (.long q2), .second, .val (.long q3), .second, .val (.int p4), .val (.int (4 : Int32)), .val (.ref b1), .unset, .unset, .unset, .unset] [(.int (4 : Int32))])) _
    refine XS.iconst X5.here hx rfl (hb hby at_57) ?_
    show Steps p.tables e below (T5.setTop (mkF m 58 #[.val (.long q0), .second, .val (.long q1), .second, .val (.long q2), .second, .val (.long q3), .second, .val (.int p4), .val (.int (4 : Int32)), .val (.ref b1), .unset, .unset, .unset, .unset] [(.int (4 : Int32)), (.int (4 : Int32))])) _
    refine XS.icmpNo X5.here hx rfl (hb hby at_58) rfl (flt (by decide : ¬ ((4 : Int32) < (4 : Int32)))).1 ?_
    show Steps p.tables e below (T5.setTop (mkF m 61 #[.val (.long q0), .second, .val (.long q1), .second, .val (.long q2), .second, .val (.long q3), .second, .val (.int p4), .val (.int (4 : Int32)), .val (.ref b1), .unset, .unset, .unset, .unset] [])) _
    refine XS.aload X5.here hx rfl (hb hby at_61) rfl rfl ?_
    show Steps p.tables e below (T5.setTop (mkF m 63 #[.val (.long q0), .second, .val (.long q1), .second, .val (.long q2), .second, .val (.long q3), .second, .val (.int p4), .val (.int (4 : Int32)), .val (.ref b1), .unset, .unset, .unset, .unset] [(.ref b1)])) _
    refine XS.lload X5.here hx rfl (hb hby at_63) rfl ?_
    show Steps p.tables e below (T5.setTop (mkF m 65 #[.val (.long q0), .second, .val (.long q1), .second, .val (.long q2), .second, .val (.long q3), .second, .val (.int p4), .val (.int (4 : Int32)), .val (.ref b1), .unset, .unset, .unset, .unset] [(.long q3), (.ref b1)])) _
    refine st6.trans ?_
    show Steps p.tables e below (T6.setTop (mkF m 68 #[.val (.long q0), .second, .val (.long q1), .second, .val (.long q2), .second, .val (.long q3), .second, .val (.int p4), .val (.int (4 : Int32)), .val (.ref b1), .unset, .unset, .unset, .unset] [])) _
    refine XS.aload X6.here hx rfl (hb hby at_68) rfl rfl ?_
    show Steps p.tables e below (T6.setTop (mkF m 70 #[.val (.long q0), .second, .val (.long q1), .second, .val (.long q2), .second, .val (.long q3), .second, .val (.int p4), .val (.int (4 : Int32)), .val (.ref b1), .unset, .unset, .unset, .unset] [(.ref b1)])) _
    refine st7.trans ?_
    show Steps p.tables e below (T7.setTop (mkF m 73 #[.val (.long q0), .second, .val (.long q1), .second, .val (.long q2), .second, .val (.long q3), .second, .val (.int p4), .val (.int (4 : Int32)), .val (.ref b1), .unset, .unset, .unset, .unset] [(.double (FP.ddiv (FP.l2d (own_mx (own_mx (own_mx q0 q1) q2) q3)) 4696837146684686336))])) _
    refine XS.dstore X7.here hx rfl (hb hby at_73) rfl (l' := #[.val (.long q0), .second, .val (.long q1), .second, .val (.long q2), .second, .val (.long q3), .second, .val (.int p4), .val (.int (4 : Int32)), .val (.ref b1), .val (.double (FP.ddiv (FP.l2d (own_mx (own_mx (own_mx q0 q1) q2) q3)) 4696837146684686336)), .second, .unset, .unset]) rfl ?_
    show Steps p.tables e below (T7.setTop (mkF m 75 #[.val (.long q0), .second, .val (.long q1), .second, .val (.long q2), .second, .val (.long q3), .second, .val (.int p4), .val (.int (4 : Int32)), .val (.ref b1), .val (.double (FP.ddiv (FP.l2d (own_mx (own_mx (own_mx q0 q1) q2) q3)) 4696837146684686336)), .second, .unset, .unset] [])) _
    refine XS.iload X7.here hx rfl (hb hby at_75) rfl ?_
    show Steps p.tables e below (T7.setTop (mkF m 77 #[.val (.long q0), .second, .val (.long q1), .second, .val (.long q2), .second, .val (.long q3), .second, .val (.int p4), .val (.int (4 : Int32)), .val (.ref b1), .val (.double (FP.ddiv (FP.l2d (own_mx (own_mx (own_mx q0 q1) q2) q3)) 4696837146684686336)), .second, .unset, .unset] [(.int (4 : Int32))])) _
    refine XS.ifYes X7.here hx rfl (pc0 := 77) (pc' := 94) rfl (hb hby at_77) rfl ((if0 _ _).trans (feq (by decide : ¬ ((4 : Int32) = (0 : Int32)))).2) (by decide) (by decide) ?_
    show Steps p.tables e below (T7.setTop (mkF m 94 #[.val (.long q0), .second, .val (.long q1), .second, .val (.long q2), .second, .val (.long q3), .second, .val (.int p4), .val (.int (4 : Int32)), .val (.ref b1), .val (.double (FP.ddiv (FP.l2d (own_mx (own_mx (own_mx q0 q1) q2) q3)) 4696837146684686336)), .second, .unset, .unset] [])) _
    refine XS.lloadN X7.here hx rfl (hb hby at_94) rfl ?_
    show Steps p.tables e below (T7.setTop (mkF m 95 #[.val (.long q0), .second, .val (.long q1), .second, .val (.long q2), .second, .val (.long q3), .second, .val (.int p4), .val (.int (4 : Int32)), .val (.ref b1), .val (.double (FP.ddiv (FP.l2d (own_mx (own_mx (own_mx q0 q1) q2) q3)) 4696837146684686336)), .second, .unset, .unset] [(.long q0)])) _
    refine XS.lstore X7.here hx rfl (hb hby at_95) rfl (l' := #[.val (.long q0), .second, .val (.long q1), .second, .val (.long q2), .second, .val (.long q3), .second, .val (.int p4), .val (.int (4 : Int32)), .val (.ref b1), .val (.double (FP.ddiv (FP.l2d (own_mx (own_mx (own_mx q0 q1) q2) q3)) 4696837146684686336)), .second, .val (.long q0), .second]) rfl ?_
    show Steps p.tables e below (T7.setTop (mkF m 97 #[.val (.long q0), .second, .val (.long q1), .second, .val (.long q2), .second, .val (.long q3), .second, .val (.int p4), .val (.int (4 : Int32)), .val (.ref b1), .val (.double (FP.ddiv (FP.l2d (own_mx (own_mx (own_mx q0 q1) q2) q3)) 4696837146684686336)), .second, .val (.long q0), .second] [])) _
    refine XS.iload X7.here hx rfl (hb hby at_97) rfl ?_
    show Steps p.tables e below (T7.setTop (mkF m 99 #[.val (.long q0), .second, .val (.long q1), .second, .val (.long q2), .second, .val (.long q3), .second, .val (.int p4), .val (.int (4 : Int32)), .val (.ref b1), .val (.double (FP.ddiv (FP.l2d (own_mx (own_mx (own_mx q0 q1) q2) q3)) 4696837146684686336)), .second, .val (.long q0), .second] [(.int (4 : Int32))])) _
    refine XS.iconst X7.here hx rfl (hb hby at_99) ?_
    show Steps p.tables e below (T7.setTop (mkF m 100 #[.val (.long q0), .second, .val (.long q1), .second, .val (.long q2), .second, .val (.long q3), .second, .val (.int p4), .val (.int (4 : Int32)), .val (.ref b1), .val (.double (FP.ddiv (FP.l2d (own_mx (own_mx (own_mx q0 q1) q2) q3)) 4696837146684686336)), .second, .val (.long q0), .second] [(.int (2 : Int32)), (.int (4 : Int32))])) _
    refine XS.icmpNo X7.here hx rfl (hb hby at_100) rfl (flt (by decide : ¬ ((4 : Int32) < (2 : Int32)))).1 ?_
    show Steps p.tables e below (T7.setTop (mkF m 103 #[.val (.long q0), .second, .val (.long q1), .second, .val (.long q2), .second, .val (.long q3), .second, .val (.int p4), .val (.int (4 : Int32)), .val (.ref b1), .val (.double (FP.ddiv (FP.l2d (own_mx (own_mx (own_mx q0 q1) q2) q3)) 4696837146684686336)), .second, .val (.long q0), .second] [])) _
    refine XS.lload X7.here hx rfl (hb hby at_103) rfl ?_
    show Steps p.tables e below (T7.setTop (mkF m 105 #[.val (.long q0), .second, .val (.long q1), .second, .val (.long q2), .second, .val (.long q3), .second, .val (.int p4), .val (.int (4 : Int32)), .val (.ref b1), .val (.double (FP.ddiv (FP.l2d (own_mx (own_mx (own_mx q0 q1) q2) q3)) 4696837146684686336)), .second, .val (.long q0), .second] [(.long q0)])) _
    refine XS.lloadN X7.here hx rfl (hb hby at_105) rfl ?_
    show Steps p.tables e below (T7.setTop (mkF m 106 #[.val (.long q0), .second, .val (.long q1), .second, .val (.long q2), .second, .val (.long q3), .second, .val (.int p4), .val (.int (4 : Int32)), .val (.ref b1), .val (.double (FP.ddiv (FP.l2d (own_mx (own_mx (own_mx q0 q1) q2) q3)) 4696837146684686336)), .second, .val (.long q0), .second] [(.long q1), (.long q0)])) _
    refine st8 _ ?_
    show Steps p.tables e below (T8.setTop (mkF m 109 #[.val (.long q0), .second, .val (.long q1), .second, .val (.long q2), .second, .val (.long q3), .second, .val (.int p4), .val (.int (4 : Int32)), .val (.ref b1), .val (.double (FP.ddiv (FP.l2d (own_mx (own_mx (own_mx q0 q1) q2) q3)) 4696837146684686336)), .second, .val (.long q0), .second] [(.long (if (lcmpW q0 q1) < (0 : Int32) then q1 else q0))])) _
    rw [own_mx_eq _ _]
    show Steps p.tables e below (T8.setTop (mkF m 109 #[.val (.long q0), .second, .val (.long q1), .second, .val (.long q2), .second, .val (.long q3), .second, .val (.int p4), .val (.int (4 : Int32)), .val (.ref b1), .val (.double (FP.ddiv (FP.l2d (own_mx (own_mx (own_mx q0 q1) q2) q3)) 4696837146684686336)), .second, .val (.long q0), .second] [(.long (own_mx q0 q1))])) _
    refine XS.lstore X8.here hx rfl (hb hby at_109) rfl (l' := #[.val (.long q0), .second, .val (.long q1), .second, .val (.long q2), .second, .val (.long q3), .second, .val (.int p4), .val (.int (4 : Int32)), .val (.ref b1), .val (.double (FP.ddiv (FP.l2d (own_mx (own_mx (own_mx q0 q1) q2) q3)) 4696837146684686336)), .second, .val (.long (own_mx q0 q1)), .second]) rfl ?_
    show Steps p.tables e below (T8.setTop (mkF m 111 #[.val (.long q0), .second, .val (.long q1), .second, .val (.long q2), .second, .val (.long q3), .second, .val (.int p4), .val (.int (4 : Int32)), .val (.ref b1), .val (.double (FP.ddiv (FP.l2d (own_mx (own_mx (own_mx q0 q1) q2) q3)) 4696837146684686336)), .second, .val (.long (own_mx q0 q1)), .second] [])) _
    refine XS.iload X8.here hx rfl (hb hby at_111) rfl ?_
    show Steps p.tables e below (T8.setTop (mkF m 113 #[.val (.long q0), .second, .val (.long q1), .second, .val (.long q2), .second, .val (.long q3), .second, .val (.int p4), .val (.int (4 : Int32)), .val (.ref b1), .val (.double (FP.ddiv (FP.l2d (own_mx (own_mx (own_mx q0 q1) q2) q3)) 4696837146684686336)), .second, .val (.long (own_mx q0 q1)), .second] [(.int (4 : Int32))])) _
    refine XS.iconst X8.here hx rfl (hb hby at_113) ?_
    show Steps p.tables e below (T8.setTop (mkF m 114 #[.val (.long q0), .second, .val (.long q1), .second, .val (.long q2), .second, .val (.long q3), .second, .val (.int p4), .val (.int (4 : Int32)), .val (.ref b1), .val (.double (FP.ddiv (FP.l2d (own_mx (own_mx (own_mx q0 q1) q2) q3)) 4696837146684686336)), .second, .val (.long (own_mx q0 q1)), .second] [(.int (3 : Int32)), (.int (4 : Int32))])) _
    refine XS.icmpNo X8.here hx rfl (hb hby at_114) rfl (flt (by decide : ¬ ((4 : Int32) < (3 : Int32)))).1 ?_
    show Steps p.tables e below (T8.setTop (mkF m 117 #[.val (.long q0), .second, .val (.long q1), .second, .val (.long q2), .second, .val (.long q3), .second, .val (.int p4), .val (.int (4 : Int32)), .val (.ref b1), .val (.double (FP.ddiv (FP.l2d (own_mx (own_mx (own_mx q0 q1) q2) q3)) 4696837146684686336)), .second, .val (.long (own_mx q0 q1)), .second] [])) _
    refine XS.lload X8.here hx rfl (hb hby at_117) rfl ?_
    show Steps p.tables e below (T8.setTop (mkF m 119 #[.val (.long q0), .second, .val (.long q1), .second, .val (.long q2), .second, .val (.long q3), .second, .val (.int p4), .val (.int (4 : Int32)), .val (.ref b1), .val (.double (FP.ddiv (FP.l2d (own_mx (own_mx (own_mx q0 q1) q2) q3)) 4696837146684686336)), .second, .val (.long (own_mx q0 q1)), .second] [(.long (own_mx q0 q1))])) _
    refine XS.lload X8.here hx rfl (hb hby at_119) rfl ?_
    show Steps p.tables e below (T8.setTop (mkF m 121 #[.val (.long q0), .second, .val (.long q1), .second, .val (.long q2), .second, .val (.long q3), .second, .val (.int p4), .val (.int (4 : Int32)), .val (.ref b1), .val (.double (FP.ddiv (FP.l2d (own_mx (own_mx (own_mx q0 q1) q2) q3)) 4696837146684686336)), .second, .val (.long (own_mx q0 q1)), .second] [(.long q2), (.long (own_mx q0 q1))])) _
    refine st9 _ ?_
    show Steps p.tables e below (T9.setTop (mkF m 124 #[.val (.long q0), .second, .val (.long q1), .second, .val (.long q2), .second, .val (.long q3), .second, .val (.int p4), .val (.int (4 : Int32)), .val (.ref b1), .val (.double (FP.ddiv (FP.l2d (own_mx (own_mx (own_mx q0 q1) q2) q3)) 4696837146684686336)), .second, .val (.long (own_mx q0 q1)), .second] [(.long (if (lcmpW (own_mx q0 q1) q2) < (0 : Int32) then q2 else (own_mx q0 q1)))])) _
    rw [own_mx_eq _ _]
    show Steps p.tables e below (T9.setTop (mkF m 124 #[.val (.long q0), .second, .val (.long q1), .second, .val (.long q2), .second, .val (.long q3), .second, .val (.int p4), .val (.int (4 : Int32)), .val (.ref b1), .val (.double (FP.ddiv (FP.l2d (own_mx (own_mx (own_mx q0 q1) q2) q3)) 4696837146684686336)), .second, .val (.long (own_mx q0 q1)), .second] [(.long (own_mx (own_mx q0 q1) q2))])) _
    refine XS.lstore X9.here hx rfl (hb hby at_124) rfl (l' := #[.val (.long q0), .second, .val (.long q1), .second, .val (.long q2), .second, .val (.long q3), .second, .val (.int p4), .val (.int (4 : Int32)), .val (.ref b1), .val (.double (FP.ddiv (FP.l2d (own_mx (own_mx (own_mx q0 q1) q2) q3)) 4696837146684686336)), .second, .val (.long (own_mx (own_mx q0 q1) q2)), .second]) rfl ?_
    show Steps p.tables e below (T9.setTop (mkF m 126 #[.val (.long q0), .second, .val (.long q1), .second, .val (.long q2), .second, .val (.long q3), .second, .val (.int p4), .val (.int (4 : Int32)), .val (.ref b1), .val (.double (FP.ddiv (FP.l2d (own_mx (own_mx (own_mx q0 q1) q2) q3)) 4696837146684686336)), .second, .val (.long (own_mx (own_mx q0 q1) q2)), .second] [])) _
    refine XS.iload X9.here hx rfl (hb hby at_126) rfl ?_
    show Steps p.tables e below (T9.setTop (mkF m 128 #[.val (.long q0), .second, .val (.long q1), .second, .val (.long q2), .second, .val (.long q3), .second, .val (.int p4), .val (.int (4 : Int32)), .val (.ref b1), .val (.double (FP.ddiv (FP.l2d (own_mx (own_mx (own_mx q0 q1) q2) q3)) 4696837146684686336)), .second, .val (.long (own_mx (own_mx q0 q1) q2)), .second] [(.int (4 : Int32))])) _
    refine XS.iconst X9.here hx rfl (hb hby at_128) ?_
    show Steps p.tables e below (T9.setTop (mkF m 129 #[.val (.long q0), .second, .val (.long q1), .second, .val (.long q2), .second, .val (.long q3), .second, .val (.int p4), .val (.int (4 : Int32)), .val (.ref b1), .val (.double (FP.ddiv (FP.l2d (own_mx (own_mx (own_mx q0 q1) q2) q3)) 4696837146684686336)), .second, .val (.long (own_mx (own_mx q0 q1) q2)), .second] [(.int (4 : Int32)), (.int (4 : Int32))])) _
    refine XS.icmpNo X9.here hx rfl (hb hby at_129) rfl (flt (by decide : ¬ ((4 : Int32) < (4 : Int32)))).1 ?_
    show Steps p.tables e below (T9.setTop (mkF m 132 #[.val (.long q0), .second, .val (.long q1), .second, .val (.long q2), .second, .val (.long q3), .second, .val (.int p4), .val (.int (4 : Int32)), .val (.ref b1), .val (.double (FP.ddiv (FP.l2d (own_mx (own_mx (own_mx q0 q1) q2) q3)) 4696837146684686336)), .second, .val (.long (own_mx (own_mx q0 q1) q2)), .second] [])) _
    refine XS.lload X9.here hx rfl (hb hby at_132) rfl ?_
    show Steps p.tables e below (T9.setTop (mkF m 134 #[.val (.long q0), .second, .val (.long q1), .second, .val (.long q2), .second, .val (.long q3), .second, .val (.int p4), .val (.int (4 : Int32)), .val (.ref b1), .val (.double (FP.ddiv (FP.l2d (own_mx (own_mx (own_mx q0 q1) q2) q3)) 4696837146684686336)), .second, .val (.long (own_mx (own_mx q0 q1) q2)), .second] [(.long (own_mx (own_mx q0 q1) q2))])) _
    refine XS.lload X9.here hx rfl (hb hby at_134) rfl ?_
    show Steps p.tables e below (T9.setTop (mkF m 136 #[.val (.long q0), .second, .val (.long q1), .second, .val (.long q2), .second, .val (.long q3), .second, .val (.int p4), .val (.int (4 : Int32)), .val (.ref b1), .val (.double (FP.ddiv (FP.l2d (own_mx (own_mx (own_mx q0 q1) q2) q3)) 4696837146684686336)), .second, .val (.long (own_mx (own_mx q0 q1) q2)), .second] [(.long q3), (.long (own_mx (own_mx q0 q1) q2))])) _
    refine st10 _ ?_
    show Steps p.tables e below (T10.setTop (mkF m 139 #[.val (.long q0), .second, .val (.long q1), .second, .val (.long q2), .second, .val (.long q3), .second, .val (.int p4), .val (.int (4 : Int32)), .val (.ref b1), .val (.double (FP.ddiv (FP.l2d (own_mx (own_mx (own_mx q0 q1) q2) q3)) 4696837146684686336)), .second, .val (.long (own_mx (own_mx q0 q1) q2)), .second] [(.long (if (lcmpW (own_mx (own_mx q0 q1) q2) q3) < (0 : Int32) then q3 else (own_mx (own_mx q0 q1) q2)))])) _
    rw [own_mx_eq _ _]
    show Steps p.tables e below (T10.setTop (mkF m 139 #[.val (.long q0), .second, .val (.long q1), .second, .val (.long q2), .second, .val (.long q3), .second, .val (.int p4), .val (.int (4 : Int32)), .val (.ref b1), .val (.double (FP.ddiv (FP.l2d (own_mx (own_mx (own_mx q0 q1) q2) q3)) 4696837146684686336)), .second, .val (.long (own_mx (own_mx q0 q1) q2)), .second] [(.long (own_mx (own_mx (own_mx q0 q1) q2) q3))])) _
    refine XS.lstore X10.here hx rfl (hb hby at_139) rfl (l' := #[.val (.long q0), .second, .val (.long q1), .second, .val (.long q2), .second, .val (.long q3), .second, .val (.int p4), .val (.int (4 : Int32)), .val (.ref b1), .val (.double (FP.ddiv (FP.l2d (own_mx (own_mx (own_mx q0 q1) q2) q3)) 4696837146684686336)), .second, .val (.long (own_mx (own_mx (own_mx q0 q1) q2) q3)), .second]) rfl ?_
    show Steps p.tables e below (T10.setTop (mkF m 141 #[.val (.long q0), .second, .val (.long q1), .second, .val (.long q2), .second, .val (.long q3), .second, .val (.int p4), .val (.int (4 : Int32)), .val (.ref b1), .val (.double (FP.ddiv (FP.l2d (own_mx (own_mx (own_mx q0 q1) q2) q3)) 4696837146684686336)), .second, .val (.long (own_mx (own_mx (own_mx q0 q1) q2) q3)), .second] [])) _
    refine XS.dload X10.here hx rfl (hb hby at_141) rfl ?_
    show Steps p.tables e below (T10.setTop (mkF m 143 #[.val (.long q0), .second, .val (.long q1), .second, .val (.long q2), .second, .val (.long q3), .second, .val (.int p4), .val (.int (4 : Int32)), .val (.ref b1), .val (.double (FP.ddiv (FP.l2d (own_mx (own_mx (own_mx q0 q1) q2) q3)) 4696837146684686336)), .second, .val (.long (own_mx (own_mx (own_mx q0 q1) q2) q3)), .second] [(.double (FP.ddiv (FP.l2d (own_mx (own_mx (own_mx q0 q1) q2) q3)) 4696837146684686336))])) _
    refine XS.lload X10.here hx rfl (hb hby at_143) rfl ?_
    show Steps p.tables e below (T10.setTop (mkF m 145 #[.val (.long q0), .second, .val (.long q1), .second, .val (.long q2), .second, .val (.long q3), .second, .val (.int p4), .val (.int (4 : Int32)), .val (.ref b1), .val (.double (FP.ddiv (FP.l2d (own_mx (own_mx (own_mx q0 q1) q2) q3)) 4696837146684686336)), .second, .val (.long (own_mx (own_mx (own_mx q0 q1) q2) q3)), .second] [(.long (own_mx (own_mx (own_mx q0 q1) q2) q3)), (.double (FP.ddiv (FP.l2d (own_mx (own_mx (own_mx q0 q1) q2) q3)) 4696837146684686336))])) _
    refine XS.l2dS X10.here hx rfl (hb hby at_145) rfl rfl ?_
    show Steps p.tables e below (T10.setTop (mkF m 146 #[.val (.long q0), .second, .val (.long q1), .second, .val (.long q2), .second, .val (.long q3), .second, .val (.int p4), .val (.int (4 : Int32)), .val (.ref b1), .val (.double (FP.ddiv (FP.l2d (own_mx (own_mx (own_mx q0 q1) q2) q3)) 4696837146684686336)), .second, .val (.long (own_mx (own_mx (own_mx q0 q1) q2) q3)), .second] [(.double (FP.l2d (own_mx (own_mx (own_mx q0 q1) q2) q3))), (.double (FP.ddiv (FP.l2d (own_mx (own_mx (own_mx q0 q1) q2) q3)) 4696837146684686336))])) _
    refine X10.ldc2DoubleC hx hown (mvT hZ (hw _ (List.mem_of_getElem? (i := 63) rfl))) (g := (mkF m 146 #[.val (.long q0), .second, .val (.long q1), .second, .val (.long q2), .second, .val (.long q3), .second, .val (.int p4), .val (.int (4 : Int32)), .val (.ref b1), .val (.double (FP.ddiv (FP.l2d (own_mx (own_mx (own_mx q0 q1) q2) q3)) 4696837146684686336)), .second, .val (.long (own_mx (own_mx (own_mx q0 q1) q2) q3)), .second] [(.double (FP.l2d (own_mx (own_mx (own_mx q0 q1) q2) q3))), (.double (FP.ddiv (FP.l2d (own_mx (own_mx (own_mx q0 q1) q2) q3)) 4696837146684686336))])) rfl (hb hby at_146) _ ?_
    show Steps p.tables e below (T10.setTop (mkF m 149 #[.val (.long q0), .second, .val (.long q1), .second, .val (.long q2), .second, .val (.long q3), .second, .val (.int p4), .val (.int (4 : Int32)), .val (.ref b1), .val (.double (FP.ddiv (FP.l2d (own_mx (own_mx (own_mx q0 q1) q2) q3)) 4696837146684686336)), .second, .val (.long (own_mx (own_mx (own_mx q0 q1) q2) q3)), .second] [(.double 4696837146684686336), (.double (FP.l2d (own_mx (own_mx (own_mx q0 q1) q2) q3))), (.double (FP.ddiv (FP.l2d (own_mx (own_mx (own_mx q0 q1) q2) q3)) 4696837146684686336))])) _
    refine XS.ddivS X10.here hx rfl (hb hby at_149) rfl (own_nn _) rfl ?_
    show Steps p.tables e below (T10.setTop (mkF m 150 #[.val (.long q0), .second, .val (.long q1), .second, .val (.long q2), .second, .val (.long q3), .second, .val (.int p4), .val (.int (4 : Int32)), .val (.ref b1), .val (.double (FP.ddiv (FP.l2d (own_mx (own_mx (own_mx q0 q1) q2) q3)) 4696837146684686336)), .second, .val (.long (own_mx (own_mx (own_mx q0 q1) q2) q3)), .second] [(.double (FP.ddiv (FP.l2d (own_mx (own_mx (own_mx q0 q1) q2) q3)) 4696837146684686336)), (.double (FP.ddiv (FP.l2d (own_mx (own_mx (own_mx q0 q1) q2) q3)) 4696837146684686336))])) _
    refine XS.dcmpS X10.here hx rfl (hb hby at_150) rfl (v := (0 : Int32)) (dcmpV_self (own_nn _) .l) ?_
    show Steps p.tables e below (T10.setTop (mkF m 151 #[.val (.long q0), .second, .val (.long q1), .second, .val (.long q2), .second, .val (.long q3), .second, .val (.int p4), .val (.int (4 : Int32)), .val (.ref b1), .val (.double (FP.ddiv (FP.l2d (own_mx (own_mx (own_mx q0 q1) q2) q3)) 4696837146684686336)), .second, .val (.long (own_mx (own_mx (own_mx q0 q1) q2) q3)), .second] [(.int (0 : Int32))])) _
    refine XS.ifNo X10.here hx rfl (hb hby at_151) rfl ((if0 _ _).trans (teq (rfl : (0 : Int32) = (0 : Int32))).2) ?_
    show Steps p.tables e below (T10.setTop (mkF m 154 #[.val (.long q0), .second, .val (.long q1), .second, .val (.long q2), .second, .val (.long q3), .second, .val (.int p4), .val (.int (4 : Int32)), .val (.ref b1), .val (.double (FP.ddiv (FP.l2d (own_mx (own_mx (own_mx q0 q1) q2) q3)) 4696837146684686336)), .second, .val (.long (own_mx (own_mx (own_mx q0 q1) q2) q3)), .second] [])) _
    refine XS.iconst X10.here hx rfl (hb hby at_154) ?_
    show Steps p.tables e below (T10.setTop (mkF m 155 #[.val (.long q0), .second, .val (.long q1), .second, .val (.long q2), .second, .val (.long q3), .second, .val (.int p4), .val (.int (4 : Int32)), .val (.ref b1), .val (.double (FP.ddiv (FP.l2d (own_mx (own_mx (own_mx q0 q1) q2) q3)) 4696837146684686336)), .second, .val (.long (own_mx (own_mx (own_mx q0 q1) q2) q3)), .second] [(.int (1 : Int32))])) _
    refine XS.goto X10.here hx rfl (pc0 := 155) (pc' := 159) rfl (hb hby at_155) (by decide) (by decide) ?_
    show Steps p.tables e below (T10.setTop (mkF m 159 #[.val (.long q0), .second, .val (.long q1), .second, .val (.long q2), .second, .val (.long q3), .second, .val (.int p4), .val (.int (4 : Int32)), .val (.ref b1), .val (.double (FP.ddiv (FP.l2d (own_mx (own_mx (own_mx q0 q1) q2) q3)) 4696837146684686336)), .second, .val (.long (own_mx (own_mx (own_mx q0 q1) q2) q3)), .second] [(.int (1 : Int32))])) _
    exact retN X10 hx (t := .boolean) Bd.returns (by simp) (hb hby at_159) hr
  · show Q_rm0_4 Z q0 q1 q2 q3 p4 h0 n0 _ T10.heap _
    rw [e10]
    exact ⟨rfl, N10⟩
theorem own_k (p : Int32) : ((p &&& (2147483647 : Int32)) % (5 : Int32)) = 0 ∨ ((p &&& (2147483647 : Int32)) % (5 : Int32)) = 1 ∨ ((p &&& (2147483647 : Int32)) % (5 : Int32)) = 2 ∨ ((p &&& (2147483647 : Int32)) % (5 : Int32)) = 3 ∨ ((p &&& (2147483647 : Int32)) % (5 : Int32)) = 4 := by
  have h1 := c_mask p (2147483647 : Int32) 31 (by decide) (by decide)
  have h2 := c_irem (p &&& (2147483647 : Int32)) (5 : Int32) 5 (by decide)
  have h6 := h2.1 (by omega)
  simp only [← Int32.toInt_inj]
  rw [show (0 : Int32).toInt = 0 by decide, show (1 : Int32).toInt = 1 by decide, show (2 : Int32).toInt = 2 by decide, show (3 : Int32).toInt = 3 by decide, show (4 : Int32).toInt = 4 by decide]
  omega
set_option maxRecDepth 65536 in
set_option maxHeartbeats 40000000 in
theorem rm0 (l : Launch) (Z : State) (a0 : Array Value) (hw : ∀ d ∈ tables_1, d.before a0 Z = true) (ws : List Jvm.Cond) (q0 : Int64) (q1 : Int64) (q2 : Int64) (q3 : Int64) (p4 : Int32) (h0 : Heap) (n0 : Nat) (Z0 : n0 ≤ h0.size) :
    MetFree l x (head1 (Jvm.Cond.code x code maxLocals ret :: ws) room_1) (fun a U => a = #[(.long q0), (.long q1), (.long q2), (.long q3), (.int p4)] ∧ Z.Warmed39 U.vm ∧ U.heap = h0) (fun _ _ _ _ _ => True) (fun _ U o U' => ∃ v L, o = .returned v ∧ (v = some (.int (1 : Int32)) ∧ Fr n0 L) ∧ FrameEnd U o U' L room_1.cells room_1.slots) := by
  rcases own_k p4 with hn | hn | hn | hn | hn
  · exact rm0_0 l Z a0 hw ws q0 q1 q2 q3 p4 h0 n0 Z0 hn
  · exact rm0_1 l Z a0 hw ws q0 q1 q2 q3 p4 h0 n0 Z0 hn
  · exact rm0_2 l Z a0 hw ws q0 q1 q2 q3 p4 h0 n0 Z0 hn
  · exact rm0_3 l Z a0 hw ws q0 q1 q2 q3 p4 h0 n0 Z0 hn
  · exact rm0_4 l Z a0 hw ws q0 q1 q2 q3 p4 h0 n0 Z0 hn
set_option maxRecDepth 65536 in
set_option maxHeartbeats 40000000 in
theorem comes_1 {Post : Tables → Env → Array Value → State → Outcome → State → Prop} (hpost : ∀ tb e args s v u, (limb_1_1.after args s (.returned v) u = true ∧ limb_1_2.after args s (.returned v) u = true ∧ True) → FrameEnd s (.returned v) u (Jvm.fieldLocs frame_1_writes args s ++ Jvm.arrayLocs frame_1_arrays args s ++ Jvm.staticLocs frame_1_statics s) 16 320 → Post tb e args s (.returned v) u) :
    ArmFor flags0 classFile x code maxLocals ret World_1 tables_1 room_1 Calls_1 rest_1 Pre_1 Post := by
  intro l hfl _ _ p e ha hc hk s m args below hf hA hF happ hP
  obtain ⟨hcalls, hrest, hpre⟩ := hP
  obtain ⟨-, -, -, hnamed, -, -, -, hat⟩ := (Spec.applies_iff hf).mp happ
  obtain ⟨hg, hn⟩ := and_e (Cond.before_iff.mp (show (Jvm.Cond.and given_1 narrow_1).before args s = true from hpre))
  obtain ⟨hc0, hr0⟩ := and_e hg
  obtain ⟨hv0, hr1⟩ := and_e hr0
  obtain ⟨hv1, hr2⟩ := and_e hr1
  obtain ⟨hv2, hr3⟩ := and_e hr2
  obtain ⟨hv3, hr4⟩ := and_e hr3
  have hv4 := hr4
  obtain ⟨w0, w1, w2, w3, w4, rfl⟩ : ∃ w0 w1 w2 w3 w4 : Value, args = #[w0, w1, w2, w3, w4] := by
    have hs : args.size = 5 := by simpa [Cond.value, given_1] using hc0
    obtain ⟨L⟩ := args
    match L, hs with
    | [w0, w1, w2, w3, w4], _ => exact ⟨w0, w1, w2, w3, w4, rfl⟩
  have hw := fun d (hd : d ∈ tables_1) => atoms_spec (ws := Jvm.Cond.code x code maxLocals ret :: tables_1) hat d (List.mem_cons_of_mem _ hd)
  obtain ⟨i0, ei0⟩ := isL_v hv0
  obtain rfl : w0 = (.long i0) := Option.some.inj ei0
  obtain ⟨i1, ei1⟩ := isL_v hv1
  obtain rfl : w1 = (.long i1) := Option.some.inj ei1
  obtain ⟨i2, ei2⟩ := isL_v hv2
  obtain rfl : w2 = (.long i2) := Option.some.inj ei2
  obtain ⟨i3, ei3⟩ := isL_v hv3
  obtain rfl : w3 = (.long i3) := Option.some.inj ei3
  obtain ⟨i4, ei4⟩ := is_v hv4
  obtain rfl : w4 = (.int i4) := Option.some.inj ei4
  obtain ⟨n, o, h1, h2, h3, _, L, rfl, ⟨rfl, N⟩, hq⟩ := rm0 l s _ hw tables_1 i0 i1 i2 i3 i4 s.heap s.heap.size (Nat.le_refl _) p e ha hc hk s m _ below hf ((Spec.applies_iff_loose hf).mp happ).1 ⟨rfl, State.Warmed39.refl s, rfl⟩ trivial
  refine ⟨n, _, h1, h2, h3, hpost _ _ _ _ _ _ ⟨Cond.after_iff.mpr rfl, Cond.after_iff.mpr (eq_i res_at (Term.int_eval (1)) rfl), trivial⟩ ⟨hq.1, hq.2.1, (hq.2.2.sift fun y hy => Or.inr (N y hy)).mono (by decide) (by decide)⟩⟩
theorem main_1_1 : Claimed_1_1 := comes_1 fun _ _ _ _ _ _ h hF => ⟨h.1, hF⟩
theorem main_1_2 : Claimed_1_2 := comes_1 fun _ _ _ _ _ _ h hF => ⟨h.2.1, hF⟩
end Jvm.Pilot.@@N@@
namespace Jvm.Pilot.@@N@@
open Jvm Jvm.ClassFile Sem Op Lib Jvm.Free Jvm.Stand Jvm.Pilot.@@N@@.Jvm.D
/-! MADE BY PROGRAM (witnessworld.py) out of the Statement's table words and the real class files: 16 classes; the members and pool entries that the words name. The judged class is class 1, her method 1. -/
namespace start1
open Jvm.ClassFile
def u (s : String) : CpInfo := .utf8 (stringToUtf16 s)
/-- a pool by its gaps: so many unusable entries, then the entry; so many at the end -/
def gap : Nat → List CpInfo → List CpInfo
  | 0, r => r
  | n + 1, r => .unusable :: gap n r
def poolList (es : List (Nat × CpInfo)) (last : Nat) : List CpInfo := es.foldr (fun e r => gap e.1 (e.2 :: r)) (gap last [])
def pool (es : List (Nat × CpInfo)) (last : Nat) : Array CpInfo := ⟨poolList es last⟩
def fileOf (pool : Array CpInfo) (this : Nat) (attrs : Array Attribute := #[]) (ms : Array MethodInfo := #[]) (fl : Nat := 33) (sup : Nat := 0) (ifs : Array Nat := #[]) (fds : Array FieldInfo := #[]) : ClassFile where
  minorVersion := 0
  majorVersion := 65
  constantPool := pool
  accessFlags := fl
  thisClass := this
  superClass := sup
  interfaces := ifs
  fields := fds
  methods := ms
  attributes := attrs
def plain (name : String) (sup : Option ClassId) : Class where
  name := name
  kind := .ordinary
  loader := none
  accessFlags := 33
  super := sup
  interfaces := #[]
  cf := none
  fields := #[]
  methods := #[]
  instanceTypes := #[]
  staticTypes := #[]
  resolved := #[]
  callSites := []
  init := .initialized
  statics := none
  mirror := none

def pool0 : Array CpInfo := pool [(5, u "<init>"), (0, u "()V"), (1, .class_ 10), (1, u "java/lang/Object")] 113

def k0c0 : Code := { maxStack := 0, maxLocals := 1, code := object_method_1_code, exceptionTable := #[], attributes := #[] }
def k0m0 : Method := { name := "<init>", desc := "()V", sig := { parameters := [], returnType := none }, accessFlags := 1, code := some k0c0 }
/-- java/lang/Object -/
def k0 : Class := { plain "java/lang/Object" none with
  accessFlags := 33
  interfaces := #[]
  cf := some (fileOf pool0 8 #[] #[{ accessFlags := 1, nameIndex := 5, descriptorIndex := 6, attributes := #[] }] 33 0 #[] #[])
  fields := #[]
  methods := #[k0m0]
  instanceTypes := #[]
  staticTypes := #[]
  resolved := Array.replicate 124 none
  statics := none }

def pool1 : Array CpInfo := pool [(2, .class_ 4), (0, .nameAndType 5 6), (0, u "java/lang/Object"), (0, u "<init>"), (0, u "()V"), (0, .integer 2147483647), (0, .class_ 9), (0, u "com/example/tolc/tolc/RecentResponseTimes"), (0, .methodref 8 3), (0, .methodref 8 12), (0, .nameAndType 13 14), (0, u "add"), (0, u "(J)V"), (0, .methodref 8 16), (0, .nameAndType 17 18), (0, u "p90Millis"), (0, u "()D"), (0, .methodref 20 21), (0, .class_ 22), (0, .nameAndType 23 24), (0, u "java/lang/Math"), (0, u "max"), (0, u "(JJ)J"), (0, .double 4696837146684686336), (1, .class_ 28), (0, u "com/example/tolc/tolc/RecentResponseTimesAddPinLaw"), (2, u "law"), (0, u "(JJJJI)Z")] 3

def k1m0 : Method := { name := "<init>", desc := "()V", sig := { parameters := [], returnType := none }, accessFlags := 1, code := none }
def k1c1 : Code := { maxStack := 6, maxLocals := 15, code := code, exceptionTable := #[], attributes := #[] }
def k1m1 : Method := { name := "law", desc := "(JJJJI)Z", sig := { parameters := [.long, .long, .long, .long, .int], returnType := some .boolean }, accessFlags := 9, code := some k1c1 }
/-- com/example/tolc/tolc/RecentResponseTimesAddPinLaw -/
def k1 : Class := { plain "com/example/tolc/tolc/RecentResponseTimesAddPinLaw" (some 0) with
  accessFlags := 49
  interfaces := #[]
  cf := some (fileOf pool1 27 #[] #[{ accessFlags := 1, nameIndex := 5, descriptorIndex := 6, attributes := #[] }, { accessFlags := 9, nameIndex := 31, descriptorIndex := 32, attributes := #[] }] 49 2 #[] #[])
  fields := #[]
  methods := #[k1m0, k1m1]
  instanceTypes := #[]
  staticTypes := #[]
  resolved := Array.replicate 36 none
  statics := none }

def pool2 : Array CpInfo := pool [(1, .methodref 2 3), (0, .class_ 4), (0, .nameAndType 5 6), (0, u "java/lang/Object"), (0, u "<init>"), (0, u "()V"), (0, .class_ 8), (0, u "com/example/tolc/tolc/RecentResponseTimes"), (0, .fieldref 7 10), (0, .nameAndType 11 12), (0, u "nanos"), (0, u "[J"), (0, .fieldref 7 14), (0, .nameAndType 15 16), (0, u "next"), (0, u "I"), (0, .fieldref 7 18), (0, .nameAndType 19 16), (0, u "size"), (0, .methodref 21 22), (0, .class_ 23), (0, .nameAndType 24 25), (0, u "java/lang/Math"), (0, u "min"), (0, u "(II)I"), (2, .double 9221120237041090560), (1, .methodref 31 32), (0, .class_ 33), (0, .nameAndType 34 35), (0, u "com/example/tolc/tolc/Percentiles"), (0, u "nearestRank"), (0, u "([JII)J"), (0, .double 4696837146684686336), (1, u "CAPACITY"), (2, u "NANOS_PER_MILLI"), (0, u "D"), (2, u "add"), (0, u "(J)V"), (0, u "p90Millis"), (0, u "()D")] 3

def k2c0 : Code := { maxStack := 2, maxLocals := 1, code := prog_15_method_1_code, exceptionTable := #[], attributes := #[] }
def k2m0 : Method := { name := "<init>", desc := "()V", sig := { parameters := [], returnType := none }, accessFlags := 0, code := some k2c0 }
def k2c1 : Code := { maxStack := 4, maxLocals := 3, code := prog_15_method_2_code, exceptionTable := #[], attributes := #[] }
def k2m1 : Method := { name := "add", desc := "(J)V", sig := { parameters := [.long], returnType := none }, accessFlags := 0, code := some k2c1 }
def k2c2 : Code := { maxStack := 4, maxLocals := 1, code := prog_15_method_3_code, exceptionTable := #[], attributes := #[] }
def k2m2 : Method := { name := "p90Millis", desc := "()D", sig := { parameters := [], returnType := some .double }, accessFlags := 0, code := some k2c2 }
/-- com/example/tolc/tolc/RecentResponseTimes -/
def k2 : Class := { plain "com/example/tolc/tolc/RecentResponseTimes" (some 0) with
  accessFlags := 48
  interfaces := #[]
  cf := some (fileOf pool2 7 #[] #[{ accessFlags := 0, nameIndex := 5, descriptorIndex := 6, attributes := #[] }, { accessFlags := 0, nameIndex := 45, descriptorIndex := 46, attributes := #[] }, { accessFlags := 0, nameIndex := 47, descriptorIndex := 48, attributes := #[] }] 48 2 #[] #[{ accessFlags := 26, nameIndex := 38, descriptorIndex := 16, attributes := #[] }, { accessFlags := 26, nameIndex := 41, descriptorIndex := 42, attributes := #[] }, { accessFlags := 18, nameIndex := 11, descriptorIndex := 12, attributes := #[] }, { accessFlags := 2, nameIndex := 19, descriptorIndex := 16, attributes := #[] }, { accessFlags := 2, nameIndex := 15, descriptorIndex := 16, attributes := #[] }])
  fields := #[{ name := "CAPACITY", type := .int, accessFlags := 26, slot := 0, constantValue := 0 }, { name := "NANOS_PER_MILLI", type := .double, accessFlags := 26, slot := 1, constantValue := 0 }, { name := "nanos", type := (.array .long), accessFlags := 18, slot := 0, constantValue := 0 }, { name := "size", type := .int, accessFlags := 2, slot := 1, constantValue := 0 }, { name := "next", type := .int, accessFlags := 2, slot := 2, constantValue := 0 }]
  methods := #[k2m0, k2m1, k2m2]
  instanceTypes := #[(.array .long), .int, .int]
  staticTypes := #[.int, .double]
  resolved := Array.replicate 52 none
  statics := none }

def pool3 : Array CpInfo := pool [(1, .class_ 2), (0, u "java/lang/Math"), (1, .class_ 6), (1, u "java/lang/Object"), (0, u "<init>"), (0, u "()V"), (89, .class_ 100), (1, u "java/lang/Math$RandomNumberGeneratorHolder"), (20, u "(JJ)J"), (50, u "negativeZeroFloatBits"), (0, u "J"), (2, u "negativeZeroDoubleBits"), (21, u "max"), (2, u "min"), (43, u "$assertionsDisabled"), (0, u "Z"), (88, u "(II)I"), (2, u "twoToTheDoubleScaleDown"), (0, u "D"), (4, u "twoToTheDoubleScaleUp"), (9, u "E"), (3, u "PI"), (2, u "TAU"), (2, u "DEGREES_TO_RADIANS"), (0, u "RADIANS_TO_DEGREES")] 94

def k3m0 : Method := { name := "<init>", desc := "()V", sig := { parameters := [], returnType := none }, accessFlags := 2, code := none }
def k3c1 : Code := { maxStack := 4, maxLocals := 4, code := jdk_29_method_66_code, exceptionTable := #[], attributes := #[] }
def k3m1 : Method := { name := "max", desc := "(JJ)J", sig := { parameters := [.long, .long], returnType := some .long }, accessFlags := 9, code := some k3c1 }
def k3c2 : Code := { maxStack := 2, maxLocals := 2, code := jdk_29_method_69_code, exceptionTable := #[], attributes := #[] }
def k3m2 : Method := { name := "min", desc := "(II)I", sig := { parameters := [.int, .int], returnType := some .int }, accessFlags := 9, code := some k3c2 }
/-- java/lang/Math -/
def k3 : Class := { plain "java/lang/Math" (some 0) with
  accessFlags := 49
  interfaces := #[]
  cf := some (fileOf pool3 1 #[.nestMembers #[98]] #[{ accessFlags := 2, nameIndex := 7, descriptorIndex := 8, attributes := #[] }, { accessFlags := 9, nameIndex := 198, descriptorIndex := 121, attributes := #[] }, { accessFlags := 9, nameIndex := 201, descriptorIndex := 335, attributes := #[] }] 49 4 #[] #[{ accessFlags := 25, nameIndex := 354, descriptorIndex := 339, attributes := #[] }, { accessFlags := 25, nameIndex := 358, descriptorIndex := 339, attributes := #[] }, { accessFlags := 25, nameIndex := 361, descriptorIndex := 339, attributes := #[] }, { accessFlags := 26, nameIndex := 364, descriptorIndex := 339, attributes := #[] }, { accessFlags := 26, nameIndex := 365, descriptorIndex := 339, attributes := #[] }, { accessFlags := 26, nameIndex := 172, descriptorIndex := 173, attributes := #[] }, { accessFlags := 26, nameIndex := 176, descriptorIndex := 173, attributes := #[] }, { accessFlags := 8, nameIndex := 344, descriptorIndex := 339, attributes := #[] }, { accessFlags := 8, nameIndex := 338, descriptorIndex := 339, attributes := #[] }, { accessFlags := 4120, nameIndex := 245, descriptorIndex := 246, attributes := #[] }])
  fields := #[{ name := "E", type := .double, accessFlags := 25, slot := 0, constantValue := 0 }, { name := "PI", type := .double, accessFlags := 25, slot := 1, constantValue := 0 }, { name := "TAU", type := .double, accessFlags := 25, slot := 2, constantValue := 0 }, { name := "DEGREES_TO_RADIANS", type := .double, accessFlags := 26, slot := 3, constantValue := 0 }, { name := "RADIANS_TO_DEGREES", type := .double, accessFlags := 26, slot := 4, constantValue := 0 }, { name := "negativeZeroFloatBits", type := .long, accessFlags := 26, slot := 5, constantValue := 0 }, { name := "negativeZeroDoubleBits", type := .long, accessFlags := 26, slot := 6, constantValue := 0 }, { name := "twoToTheDoubleScaleUp", type := .double, accessFlags := 8, slot := 7, constantValue := 0 }, { name := "twoToTheDoubleScaleDown", type := .double, accessFlags := 8, slot := 8, constantValue := 0 }, { name := "$assertionsDisabled", type := .boolean, accessFlags := 4120, slot := 9, constantValue := 0 }]
  methods := #[k3m0, k3m1, k3m2]
  instanceTypes := #[]
  staticTypes := #[.double, .double, .double, .double, .double, .long, .long, .double, .double, .boolean]
  resolved := Array.replicate 460 none
  statics := none }

def pool4 : Array CpInfo := pool [(2, .class_ 4), (1, u "java/lang/Object"), (0, u "<init>"), (0, u "()V"), (12, .methodref 20 21), (0, .class_ 22), (0, .nameAndType 23 24), (0, u "java/util/Arrays"), (0, u "copyOf"), (0, u "([JI)[J"), (0, .methodref 20 26), (0, .nameAndType 27 28), (0, u "sort"), (0, u "([J)V"), (0, .long 99), (1, .long 100), (1, .class_ 34), (0, u "com/example/tolc/tolc/Percentiles"), (2, u "nearestRank"), (0, u "([JII)J")] 20

def k4m0 : Method := { name := "<init>", desc := "()V", sig := { parameters := [], returnType := none }, accessFlags := 2, code := none }
def k4c1 : Code := { maxStack := 4, maxLocals := 6, code := prog_14_method_2_code, exceptionTable := #[], attributes := #[] }
def k4m1 : Method := { name := "nearestRank", desc := "([JII)J", sig := { parameters := [(.array .long), .int, .int], returnType := some .long }, accessFlags := 9, code := some k4c1 }
/-- com/example/tolc/tolc/Percentiles -/
def k4 : Class := { plain "com/example/tolc/tolc/Percentiles" (some 0) with
  accessFlags := 49
  interfaces := #[]
  cf := some (fileOf pool4 33 #[] #[{ accessFlags := 2, nameIndex := 5, descriptorIndex := 6, attributes := #[] }, { accessFlags := 9, nameIndex := 37, descriptorIndex := 38, attributes := #[] }] 49 2 #[] #[])
  fields := #[]
  methods := #[k4m0, k4m1]
  instanceTypes := #[]
  staticTypes := #[]
  resolved := Array.replicate 59 none
  statics := none }

def pool5 : Array CpInfo := pool [(2, .class_ 4), (1, u "java/lang/Object"), (0, u "<init>"), (0, u "()V"), (1, .class_ 10), (1, u "java/util/DualPivotQuicksort"), (0, u "sort"), (2, .class_ 16), (1, u "java/util/Arrays"), (2, .methodref 8 20), (0, .nameAndType 11 21), (0, u "([JIII)V"), (52, .class_ 76), (1, u "java/util/Arrays$NaturalOrder"), (36, .class_ 115), (1, u "java/util/Arrays$LegacyMergeSort"), (1, u "Z"), (32, .methodref 151 152), (0, .class_ 153), (0, .nameAndType 154 155), (0, u "java/lang/System"), (0, u "arraycopy"), (0, u "(Ljava/lang/Object;ILjava/lang/Object;II)V"), (146, u "copyOf"), (1, .methodref 305 306), (0, .class_ 307), (0, .nameAndType 308 309), (0, u "java/lang/Math"), (0, u "min"), (0, u "(II)I"), (65, .class_ 376), (0, u "java/util/Arrays$ArrayList"), (68, u "$assertionsDisabled"), (269, u "MIN_ARRAY_SORT_GRAN"), (0, u "I"), (2, u "INSERTIONSORT_THRESHOLD"), (11, u "([J)V"), (140, u "([JI)[J"), (102, .class_ 976), (0, u "java/util/Arrays$ArrayItr")] 52

def k5m0 : Method := { name := "<init>", desc := "()V", sig := { parameters := [], returnType := none }, accessFlags := 2, code := none }
def k5c1 : Code := { maxStack := 4, maxLocals := 1, code := jdk_65_method_4_code, exceptionTable := #[], attributes := #[] }
def k5m1 : Method := { name := "sort", desc := "([J)V", sig := { parameters := [(.array .long)], returnType := none }, accessFlags := 9, code := some k5c1 }
def k5c2 : Code := { maxStack := 6, maxLocals := 3, code := jdk_65_method_124_code, exceptionTable := #[], attributes := #[] }
def k5m2 : Method := { name := "copyOf", desc := "([JI)[J", sig := { parameters := [(.array .long), .int], returnType := some (.array .long) }, accessFlags := 9, code := some k5c2 }
/-- java/util/Arrays -/
def k5 : Class := { plain "java/util/Arrays" (some 0) with
  accessFlags := 49
  interfaces := #[]
  cf := some (fileOf pool5 14 #[.nestMembers #[975, 375, 113, 74]] #[{ accessFlags := 2, nameIndex := 5, descriptorIndex := 6, attributes := #[] }, { accessFlags := 9, nameIndex := 11, descriptorIndex := 731, attributes := #[] }, { accessFlags := 9, nameIndex := 302, descriptorIndex := 872, attributes := #[] }] 49 2 #[] #[{ accessFlags := 26, nameIndex := 715, descriptorIndex := 716, attributes := #[] }, { accessFlags := 26, nameIndex := 719, descriptorIndex := 716, attributes := #[] }, { accessFlags := 4120, nameIndex := 445, descriptorIndex := 117, attributes := #[] }])
  fields := #[{ name := "MIN_ARRAY_SORT_GRAN", type := .int, accessFlags := 26, slot := 0, constantValue := 0 }, { name := "INSERTIONSORT_THRESHOLD", type := .int, accessFlags := 26, slot := 1, constantValue := 0 }, { name := "$assertionsDisabled", type := .boolean, accessFlags := 4120, slot := 2, constantValue := 0 }]
  methods := #[k5m0, k5m1, k5m2]
  instanceTypes := #[]
  staticTypes := #[.int, .int, .boolean]
  resolved := Array.replicate 1029 none
  statics := none }

def pool6 : Array CpInfo := pool [(2, .class_ 4), (1, u "java/lang/Object"), (0, u "<init>"), (0, u "()V"), (1, .class_ 10), (1, u "java/lang/System"), (0, u "allowSecurityManager"), (0, u "I"), (16, u "cons"), (0, u "Ljava/io/Console;"), (77, .class_ 110), (1, u "java/lang/System$CallersHolder"), (43, u "initialErrStream"), (0, u "Ljava/io/PrintStream;"), (19, u "security"), (0, u "Ljava/lang/SecurityManager;"), (31, .class_ 209), (0, u "java/lang/System$1"), (7, u "props"), (0, u "Ljava/util/Properties;"), (2, u "lineSeparator"), (0, u "Ljava/lang/String;"), (96, .class_ 321), (1, u "java/lang/System$LoggerFinder"), (5, .class_ 328), (0, u "java/lang/System$Logger"), (67, u "err"), (2, u "out"), (91, u "notSupportedJnuEncoding"), (15, u "in"), (17, u "initialIn"), (0, u "Ljava/io/InputStream;"), (35, u "bootLayer"), (0, u "Ljava/lang/ModuleLayer;"), (99, .class_ 664), (0, u "java/lang/System$2"), (9, u "NEVER"), (2, u "MAYBE"), (49, u "arraycopy"), (0, u "(Ljava/lang/Object;ILjava/lang/Object;II)V"), (72, .class_ 802), (0, u "java/lang/System$Logger$Level")] 31

def k6m0 : Method := { name := "<init>", desc := "()V", sig := { parameters := [], returnType := none }, accessFlags := 2, code := none }
def k6m1 : Method := { name := "arraycopy", desc := "(Ljava/lang/Object;ILjava/lang/Object;II)V", sig := { parameters := [(.object "java/lang/Object"), .int, (.object "java/lang/Object"), .int, .int], returnType := none }, accessFlags := 265, code := none }
/-- java/lang/System -/
def k6 : Class := { plain "java/lang/System" (some 0) with
  accessFlags := 49
  interfaces := #[]
  cf := some (fileOf pool6 8 #[.nestMembers #[319, 327, 801, 108, 663, 208]] #[{ accessFlags := 2, nameIndex := 5, descriptorIndex := 6, attributes := #[] }, { accessFlags := 265, nameIndex := 727, descriptorIndex := 728, attributes := #[] }] 49 2 #[] #[{ accessFlags := 25, nameIndex := 507, descriptorIndex := 526, attributes := #[] }, { accessFlags := 25, nameIndex := 399, descriptorIndex := 155, attributes := #[] }, { accessFlags := 25, nameIndex := 396, descriptorIndex := 155, attributes := #[] }, { accessFlags := 10, nameIndex := 525, descriptorIndex := 526, attributes := #[] }, { accessFlags := 26, nameIndex := 674, descriptorIndex := 12, attributes := #[] }, { accessFlags := 26, nameIndex := 677, descriptorIndex := 12, attributes := #[] }, { accessFlags := 10, nameIndex := 11, descriptorIndex := 12, attributes := #[] }, { accessFlags := 74, nameIndex := 175, descriptorIndex := 176, attributes := #[] }, { accessFlags := 10, nameIndex := 491, descriptorIndex := 222, attributes := #[] }, { accessFlags := 74, nameIndex := 29, descriptorIndex := 30, attributes := #[] }, { accessFlags := 74, nameIndex := 154, descriptorIndex := 155, attributes := #[] }, { accessFlags := 10, nameIndex := 217, descriptorIndex := 218, attributes := #[] }, { accessFlags := 10, nameIndex := 221, descriptorIndex := 222, attributes := #[] }, { accessFlags := 8, nameIndex := 562, descriptorIndex := 563, attributes := #[] }])
  fields := #[{ name := "in", type := (.object "java/io/InputStream"), accessFlags := 25, slot := 0, constantValue := 0 }, { name := "out", type := (.object "java/io/PrintStream"), accessFlags := 25, slot := 1, constantValue := 0 }, { name := "err", type := (.object "java/io/PrintStream"), accessFlags := 25, slot := 2, constantValue := 0 }, { name := "initialIn", type := (.object "java/io/InputStream"), accessFlags := 10, slot := 3, constantValue := 0 }, { name := "NEVER", type := .int, accessFlags := 26, slot := 4, constantValue := 0 }, { name := "MAYBE", type := .int, accessFlags := 26, slot := 5, constantValue := 0 }, { name := "allowSecurityManager", type := .int, accessFlags := 10, slot := 6, constantValue := 0 }, { name := "security", type := (.object "java/lang/SecurityManager"), accessFlags := 74, slot := 7, constantValue := 0 }, { name := "notSupportedJnuEncoding", type := (.object "java/lang/String"), accessFlags := 10, slot := 8, constantValue := 0 }, { name := "cons", type := (.object "java/io/Console"), accessFlags := 74, slot := 9, constantValue := 0 }, { name := "initialErrStream", type := (.object "java/io/PrintStream"), accessFlags := 74, slot := 10, constantValue := 0 }, { name := "props", type := (.object "java/util/Properties"), accessFlags := 10, slot := 11, constantValue := 0 }, { name := "lineSeparator", type := (.object "java/lang/String"), accessFlags := 10, slot := 12, constantValue := 0 }, { name := "bootLayer", type := (.object "java/lang/ModuleLayer"), accessFlags := 8, slot := 13, constantValue := 0 }]
  methods := #[k6m0, k6m1]
  instanceTypes := #[]
  staticTypes := #[(.object "java/io/InputStream"), (.object "java/io/PrintStream"), (.object "java/io/PrintStream"), (.object "java/io/InputStream"), .int, .int, .int, (.object "java/lang/SecurityManager"), (.object "java/lang/String"), (.object "java/io/Console"), (.object "java/io/PrintStream"), (.object "java/util/Properties"), (.object "java/lang/String"), (.object "java/lang/ModuleLayer")]
  resolved := Array.replicate 834 none
  statics := none }

def pool7 : Array CpInfo := pool [(1, .class_ 2), (0, u "java/util/DualPivotQuicksort"), (5, .class_ 10), (1, u "java/lang/Object"), (0, u "<init>"), (0, u "()V"), (4, .class_ 18), (0, u "java/util/DualPivotQuicksort$Sorter"), (9, u "sort"), (7, u "insertionSort"), (31, u "I"), (4, .class_ 74), (0, u "java/util/DualPivotQuicksort$RunMerger"), (10, .class_ 86), (0, u "java/util/DualPivotQuicksort$Merger"), (12, .methodref 1 100), (0, .nameAndType 28 101), (0, u "(Ljava/util/DualPivotQuicksort$Sorter;[JIII)V"), (2, u "([JIII)V"), (0, .methodref 1 106), (0, .nameAndType 36 107), (0, u "([JII)V"), (106, u "MAX_MIXED_INSERTION_SORT_SIZE"), (2, u "MAX_INSERTION_SORT_SIZE"), (1, u "MIN_PARALLEL_SORT_SIZE"), (1, u "MIN_TRY_MERGE_SIZE"), (0, u "MIN_FIRST_RUN_SIZE"), (1, u "MIN_FIRST_RUNS_FACTOR"), (1, u "MAX_RUN_CAPACITY"), (1, u "MIN_RUN_COUNT"), (1, u "MIN_PARALLEL_MERGE_PARTS_SIZE"), (0, u "MIN_BYTE_COUNTING_SORT_SIZE"), (1, u "MIN_SHORT_OR_CHAR_COUNTING_SORT_SIZE"), (1, u "DELTA"), (1, u "MAX_RECURSION_DEPTH"), (1, u "NUM_BYTE_VALUES"), (1, u "MAX_BYTE_INDEX"), (0, u "NUM_CHAR_VALUES"), (0, u "NUM_SHORT_VALUES"), (0, u "MAX_SHORT_INDEX")] 86

def k7m0 : Method := { name := "<init>", desc := "()V", sig := { parameters := [], returnType := none }, accessFlags := 2, code := none }
def k7c1 : Code := { maxStack := 9, maxLocals := 7, code := jdk_2529_method_12_code, exceptionTable := #[], attributes := #[] }
def k7m1 : Method := { name := "sort", desc := "([JIII)V", sig := { parameters := [(.array .long), .int, .int, .int], returnType := none }, accessFlags := 8, code := some k7c1 }
def k7c2 : Code := { maxStack := 6, maxLocals := 25, code := jdk_2529_method_13_code, exceptionTable := #[], attributes := #[] }
def k7m2 : Method := { name := "sort", desc := "(Ljava/util/DualPivotQuicksort$Sorter;[JIII)V", sig := { parameters := [(.object "java/util/DualPivotQuicksort$Sorter"), (.array .long), .int, .int, .int], returnType := none }, accessFlags := 8, code := some k7c2 }
def k7c3 : Code := { maxStack := 5, maxLocals := 7, code := jdk_2529_method_15_code, exceptionTable := #[], attributes := #[] }
def k7m3 : Method := { name := "insertionSort", desc := "([JII)V", sig := { parameters := [(.array .long), .int, .int], returnType := none }, accessFlags := 10, code := some k7c3 }
/-- java/util/DualPivotQuicksort -/
def k7 : Class := { plain "java/util/DualPivotQuicksort" (some 0) with
  accessFlags := 48
  interfaces := #[]
  cf := some (fileOf pool7 1 #[.nestMembers #[73, 85, 17]] #[{ accessFlags := 2, nameIndex := 11, descriptorIndex := 12, attributes := #[] }, { accessFlags := 8, nameIndex := 28, descriptorIndex := 104, attributes := #[] }, { accessFlags := 8, nameIndex := 28, descriptorIndex := 101, attributes := #[] }, { accessFlags := 10, nameIndex := 36, descriptorIndex := 107, attributes := #[] }] 48 8 #[] #[{ accessFlags := 26, nameIndex := 214, descriptorIndex := 68, attributes := #[] }, { accessFlags := 26, nameIndex := 217, descriptorIndex := 68, attributes := #[] }, { accessFlags := 26, nameIndex := 219, descriptorIndex := 68, attributes := #[] }, { accessFlags := 26, nameIndex := 221, descriptorIndex := 68, attributes := #[] }, { accessFlags := 26, nameIndex := 222, descriptorIndex := 68, attributes := #[] }, { accessFlags := 26, nameIndex := 224, descriptorIndex := 68, attributes := #[] }, { accessFlags := 26, nameIndex := 226, descriptorIndex := 68, attributes := #[] }, { accessFlags := 26, nameIndex := 228, descriptorIndex := 68, attributes := #[] }, { accessFlags := 26, nameIndex := 230, descriptorIndex := 68, attributes := #[] }, { accessFlags := 26, nameIndex := 231, descriptorIndex := 68, attributes := #[] }, { accessFlags := 26, nameIndex := 233, descriptorIndex := 68, attributes := #[] }, { accessFlags := 26, nameIndex := 235, descriptorIndex := 68, attributes := #[] }, { accessFlags := 26, nameIndex := 237, descriptorIndex := 68, attributes := #[] }, { accessFlags := 26, nameIndex := 239, descriptorIndex := 68, attributes := #[] }, { accessFlags := 26, nameIndex := 241, descriptorIndex := 68, attributes := #[] }, { accessFlags := 26, nameIndex := 242, descriptorIndex := 68, attributes := #[] }, { accessFlags := 26, nameIndex := 243, descriptorIndex := 68, attributes := #[] }, { accessFlags := 26, nameIndex := 244, descriptorIndex := 68, attributes := #[] }])
  fields := #[{ name := "MAX_MIXED_INSERTION_SORT_SIZE", type := .int, accessFlags := 26, slot := 0, constantValue := 0 }, { name := "MAX_INSERTION_SORT_SIZE", type := .int, accessFlags := 26, slot := 1, constantValue := 0 }, { name := "MIN_PARALLEL_SORT_SIZE", type := .int, accessFlags := 26, slot := 2, constantValue := 0 }, { name := "MIN_TRY_MERGE_SIZE", type := .int, accessFlags := 26, slot := 3, constantValue := 0 }, { name := "MIN_FIRST_RUN_SIZE", type := .int, accessFlags := 26, slot := 4, constantValue := 0 }, { name := "MIN_FIRST_RUNS_FACTOR", type := .int, accessFlags := 26, slot := 5, constantValue := 0 }, { name := "MAX_RUN_CAPACITY", type := .int, accessFlags := 26, slot := 6, constantValue := 0 }, { name := "MIN_RUN_COUNT", type := .int, accessFlags := 26, slot := 7, constantValue := 0 }, { name := "MIN_PARALLEL_MERGE_PARTS_SIZE", type := .int, accessFlags := 26, slot := 8, constantValue := 0 }, { name := "MIN_BYTE_COUNTING_SORT_SIZE", type := .int, accessFlags := 26, slot := 9, constantValue := 0 }, { name := "MIN_SHORT_OR_CHAR_COUNTING_SORT_SIZE", type := .int, accessFlags := 26, slot := 10, constantValue := 0 }, { name := "DELTA", type := .int, accessFlags := 26, slot := 11, constantValue := 0 }, { name := "MAX_RECURSION_DEPTH", type := .int, accessFlags := 26, slot := 12, constantValue := 0 }, { name := "NUM_BYTE_VALUES", type := .int, accessFlags := 26, slot := 13, constantValue := 0 }, { name := "MAX_BYTE_INDEX", type := .int, accessFlags := 26, slot := 14, constantValue := 0 }, { name := "NUM_CHAR_VALUES", type := .int, accessFlags := 26, slot := 15, constantValue := 0 }, { name := "NUM_SHORT_VALUES", type := .int, accessFlags := 26, slot := 16, constantValue := 0 }, { name := "MAX_SHORT_INDEX", type := .int, accessFlags := 26, slot := 17, constantValue := 0 }]
  methods := #[k7m0, k7m1, k7m2, k7m3]
  instanceTypes := #[]
  staticTypes := #[.int, .int, .int, .int, .int, .int, .int, .int, .int, .int, .int, .int, .int, .int, .int, .int, .int, .int]
  resolved := Array.replicate 331 none
  statics := none }

def pool8 : Array CpInfo := pool [(1, u "java/lang/Cloneable"), (0, .class_ 1), (0, u "java/lang/Object"), (0, .class_ 3)] 3

/-- java/lang/Cloneable -/
def k8 : Class := { plain "java/lang/Cloneable" (some 0) with
  accessFlags := 1537
  interfaces := #[]
  cf := some (fileOf pool8 2 #[] #[] 1537 4 #[] #[])
  fields := #[]
  methods := #[]
  instanceTypes := #[]
  staticTypes := #[]
  resolved := Array.replicate 8 none
  statics := none }

def pool9 : Array CpInfo := pool [(1, u "java/io/Serializable"), (0, .class_ 1), (0, u "java/lang/Object"), (0, .class_ 3)] 3

/-- java/io/Serializable -/
def k9 : Class := { plain "java/io/Serializable" (some 0) with
  accessFlags := 1537
  interfaces := #[]
  cf := some (fileOf pool9 2 #[] #[] 1537 4 #[] #[])
  fields := #[]
  methods := #[]
  instanceTypes := #[]
  staticTypes := #[]
  resolved := Array.replicate 8 none
  statics := none }

/-- the primitive byte -/
def k10 : Class := { plain "byte" none with kind := .primitive 'B', accessFlags := 0x411 }
/-- [B -/
def k11 : Class := { plain "[B" (some 0) with kind := .array 10 .byte, interfaces := #[8, 9], accessFlags := 1041 }

/-- the primitive int -/
def k12 : Class := { plain "int" none with kind := .primitive 'I', accessFlags := 0x411 }
/-- [I -/
def k13 : Class := { plain "[I" (some 0) with kind := .array 12 .int, interfaces := #[8, 9], accessFlags := 1041 }

/-- the primitive long -/
def k14 : Class := { plain "long" none with kind := .primitive 'J', accessFlags := 0x411 }
/-- [J -/
def k15 : Class := { plain "[J" (some 0) with kind := .array 14 .long, interfaces := #[8, 9], accessFlags := 1041 }

def heap : Heap := #[]
def classes : Array Class := #[k0, k1, k2, k3, k4, k5, k6, k7, k8, k9, k10, k11, k12, k13, k14, k15]
def interned : List (Array UInt16 × Addr) := []
def slotsUsed : Nat := 0
def theMethod : MethodId := ⟨1, 1⟩
def args0 : Array Value := #[.long 5, .long 7, .long 3, .long 1, .int 9]
def aboutOver (below : List Frame) : State where
  vm := { classes := classes, interned := interned.toArray }
  heap := heap
  slotsUsed := slotsUsed
  threads := #[{ frames := .invoking theMethod args0 :: below }]
def below0 : List Frame := [.native { method := ⟨0, 0⟩, args := #[] }]
def about1 : State := aboutOver below0
def p0 : Program := .bare "" "" ""
def e0 : Env := launch0.env 0 0 0
theorem w_frames : about1.frames = Frame.invoking theMethod args0 :: below0 := rfl
set_option maxRecDepth 65536 in
theorem w_args : argsFit about1.vm theMethod args0 = true := by decide +kernel
set_option maxRecDepth 65536 in
theorem w_heap : heapFits about1 = true := by decide +kernel
set_option maxRecDepth 65536 in
theorem w_runnable : about1.curStatus? = some .runnable := by decide +kernel
set_option maxRecDepth 65536 in
theorem w_alone : about1.alone = true := by decide +kernel
set_option maxRecDepth 65536 in
theorem w_named : about1.methodNamed? x = some theMethod := by decide +kernel
set_option maxRecDepth 65536 in
theorem w_hears : about1.hears theMethod below0 = true := by decide +kernel
set_option maxRecDepth 65536 in
theorem w_ripe : about1.ripe theMethod args0 below0 = true := by decide +kernel
theorem w_running : about1.status = .running := rfl
set_option maxRecDepth 65536 in
theorem w_room : about1.hasRoom e0.platform room_1 = true :=
  launch0.hasRoom_least _ room_1 (by decide +kernel) (by decide +kernel) (by decide +kernel) (by decide +kernel) (by decide +kernel) (by decide +kernel)
theorem allAtoms_all (ts : List Jvm.Cond) (a : Array Jvm.Value) (st : Jvm.State) : (allAtoms ts).before a st = ts.all (fun c => c.before a st) := by
  induction ts with
  | nil => rfl
  | cons c t ih =>
    show (Jvm.Cond.and c (allAtoms t)).before a st = _
    rw [Jvm.Cond.before_and, ih, List.all_cons]
def words1 : List Jvm.Cond := Jvm.Cond.code x code maxLocals ret :: tables_1
/-- a 'code' word, met by the world's own term for the bytes: nothing is compared byte by byte -/
theorem code_word {y : MethodName} {bytes : ByteArray} {mx : Nat} {rt : Option FieldType} {a : Array Value} {s : State} {m : MethodId} {meth : Method} {c : Code} (h1 : s.methodNamed? y = some m) (h2 : s.vm.method? m = some meth) (h3 : meth.code = some c) (h4 : c.code = bytes)
    (h5 : (c.maxLocals == mx && c.exceptionTable.isEmpty && decide (c.maxStack ≤ mostOperands) && decide (meth.sig.returnType = rt) && !meth.locks && decide (parseMethodDescriptor y.desc = some meth.sig)) = true) : (Jvm.Cond.code y bytes mx rt).before a s = true := by
  simp only [Bool.and_eq_true, beq_iff_eq, Bool.not_eq_true', decide_eq_true_eq] at h5
  obtain ⟨⟨⟨⟨⟨g1, g2⟩, g3⟩, g4⟩, g5⟩, g6⟩ := h5
  simp [Cond.before, Cond.holds, Cond.value, h1, h2, h3, h4, g1, g2, g3, g4, g5, g6]
def isCode : Jvm.Cond → Bool
  | .code _ _ _ _ => true
  | _ => false
theorem all_split {L : List Jvm.Cond} {P : Jvm.Cond → Bool} (h1 : L.all (fun c => isCode c || P c) = true) (h2 : ∀ c ∈ L.filter isCode, P c = true) : L.all P = true := by
  refine List.all_eq_true.mpr fun c hc => ?_
  have h := List.all_eq_true.mp h1 c hc
  rcases Bool.eq_false_or_eq_true (isCode c) with hi | hi
  · exact h2 c (List.mem_filter.mpr ⟨hc, hi⟩)
  · simpa [hi] using h
set_option maxRecDepth 65536 in
theorem w_c0 : (Jvm.Cond.code x code maxLocals ret).before args0 about1 = true := code_word (m := ⟨1, 1⟩) (meth := k1m1) (c := k1c1) (by decide +kernel) rfl rfl rfl (by decide +kernel)
set_option maxRecDepth 65536 in
theorem w_c1 : (Jvm.Cond.code ({ cls := "com/example/tolc/tolc/RecentResponseTimes", name := "<init>", desc := "()V" } : Jvm.MethodName) prog_15_method_1_code (1 : Nat) (Option.none : Option Jvm.ClassFile.FieldType)).before args0 about1 = true := code_word (m := ⟨2, 0⟩) (meth := k2m0) (c := k2c0) (by decide +kernel) rfl rfl rfl (by decide +kernel)
set_option maxRecDepth 65536 in
theorem w_c2 : (Jvm.Cond.code ({ cls := "java/lang/Object", name := "<init>", desc := "()V" } : Jvm.MethodName) object_method_1_code (1 : Nat) (Option.none : Option Jvm.ClassFile.FieldType)).before args0 about1 = true := code_word (m := ⟨0, 0⟩) (meth := k0m0) (c := k0c0) (by decide +kernel) rfl rfl rfl (by decide +kernel)
set_option maxRecDepth 65536 in
theorem w_c3 : (Jvm.Cond.code ({ cls := "com/example/tolc/tolc/RecentResponseTimes", name := "add", desc := "(J)V" } : Jvm.MethodName) prog_15_method_2_code (3 : Nat) (Option.none : Option Jvm.ClassFile.FieldType)).before args0 about1 = true := code_word (m := ⟨2, 1⟩) (meth := k2m1) (c := k2c1) (by decide +kernel) rfl rfl rfl (by decide +kernel)
set_option maxRecDepth 65536 in
theorem w_c4 : (Jvm.Cond.code ({ cls := "java/lang/Math", name := "min", desc := "(II)I" } : Jvm.MethodName) jdk_29_method_69_code (2 : Nat) (Option.some Jvm.ClassFile.FieldType.int)).before args0 about1 = true := code_word (m := ⟨3, 2⟩) (meth := k3m2) (c := k3c2) (by decide +kernel) rfl rfl rfl (by decide +kernel)
set_option maxRecDepth 65536 in
theorem w_c5 : (Jvm.Cond.code ({ cls := "com/example/tolc/tolc/RecentResponseTimes", name := "p90Millis", desc := "()D" } : Jvm.MethodName) prog_15_method_3_code (1 : Nat) (Option.some Jvm.ClassFile.FieldType.double)).before args0 about1 = true := code_word (m := ⟨2, 2⟩) (meth := k2m2) (c := k2c2) (by decide +kernel) rfl rfl rfl (by decide +kernel)
set_option maxRecDepth 65536 in
theorem w_c6 : (Jvm.Cond.code ({ cls := "com/example/tolc/tolc/Percentiles", name := "nearestRank", desc := "([JII)J" } : Jvm.MethodName) prog_14_method_2_code (6 : Nat) (Option.some Jvm.ClassFile.FieldType.long)).before args0 about1 = true := code_word (m := ⟨4, 1⟩) (meth := k4m1) (c := k4c1) (by decide +kernel) rfl rfl rfl (by decide +kernel)
set_option maxRecDepth 65536 in
theorem w_c7 : (Jvm.Cond.code ({ cls := "java/util/Arrays", name := "copyOf", desc := "([JI)[J" } : Jvm.MethodName) jdk_65_method_124_code (3 : Nat) (Option.some (Jvm.ClassFile.FieldType.array Jvm.ClassFile.FieldType.long))).before args0 about1 = true := code_word (m := ⟨5, 2⟩) (meth := k5m2) (c := k5c2) (by decide +kernel) rfl rfl rfl (by decide +kernel)
set_option maxRecDepth 65536 in
theorem w_c8 : (Jvm.Cond.code ({ cls := "java/util/Arrays", name := "sort", desc := "([J)V" } : Jvm.MethodName) jdk_65_method_4_code (1 : Nat) (Option.none : Option Jvm.ClassFile.FieldType)).before args0 about1 = true := code_word (m := ⟨5, 1⟩) (meth := k5m1) (c := k5c1) (by decide +kernel) rfl rfl rfl (by decide +kernel)
set_option maxRecDepth 65536 in
theorem w_c9 : (Jvm.Cond.code ({ cls := "java/util/DualPivotQuicksort", name := "sort", desc := "([JIII)V" } : Jvm.MethodName) jdk_2529_method_12_code (7 : Nat) (Option.none : Option Jvm.ClassFile.FieldType)).before args0 about1 = true := code_word (m := ⟨7, 1⟩) (meth := k7m1) (c := k7c1) (by decide +kernel) rfl rfl rfl (by decide +kernel)
set_option maxRecDepth 65536 in
theorem w_c10 : (Jvm.Cond.code ({ cls := "java/util/DualPivotQuicksort", name := "sort", desc := "(Ljava/util/DualPivotQuicksort$Sorter;[JIII)V" } : Jvm.MethodName) jdk_2529_method_13_code (25 : Nat) (Option.none : Option Jvm.ClassFile.FieldType)).before args0 about1 = true := code_word (m := ⟨7, 2⟩) (meth := k7m2) (c := k7c2) (by decide +kernel) rfl rfl rfl (by decide +kernel)
set_option maxRecDepth 65536 in
theorem w_c11 : (Jvm.Cond.code ({ cls := "java/util/DualPivotQuicksort", name := "insertionSort", desc := "([JII)V" } : Jvm.MethodName) jdk_2529_method_15_code (7 : Nat) (Option.none : Option Jvm.ClassFile.FieldType)).before args0 about1 = true := code_word (m := ⟨7, 3⟩) (meth := k7m3) (c := k7c3) (by decide +kernel) rfl rfl rfl (by decide +kernel)
set_option maxRecDepth 65536 in
theorem w_c12 : (Jvm.Cond.code ({ cls := "java/lang/Math", name := "max", desc := "(JJ)J" } : Jvm.MethodName) jdk_29_method_66_code (4 : Nat) (Option.some Jvm.ClassFile.FieldType.long)).before args0 about1 = true := code_word (m := ⟨3, 1⟩) (meth := k3m1) (c := k3c1) (by decide +kernel) rfl rfl rfl (by decide +kernel)
def codes1 : List Jvm.Cond := [Jvm.Cond.code x code maxLocals ret, Jvm.Cond.code ({ cls := "com/example/tolc/tolc/RecentResponseTimes", name := "<init>", desc := "()V" } : Jvm.MethodName) prog_15_method_1_code (1 : Nat) (Option.none : Option Jvm.ClassFile.FieldType), Jvm.Cond.code ({ cls := "java/lang/Object", name := "<init>", desc := "()V" } : Jvm.MethodName) object_method_1_code (1 : Nat) (Option.none : Option Jvm.ClassFile.FieldType), Jvm.Cond.code ({ cls := "com/example/tolc/tolc/RecentResponseTimes", name := "add", desc := "(J)V" } : Jvm.MethodName) prog_15_method_2_code (3 : Nat) (Option.none : Option Jvm.ClassFile.FieldType), Jvm.Cond.code ({ cls := "java/lang/Math", name := "min", desc := "(II)I" } : Jvm.MethodName) jdk_29_method_69_code (2 : Nat) (Option.some Jvm.ClassFile.FieldType.int), Jvm.Cond.code ({ cls := "com/example/tolc/tolc/RecentResponseTimes", name := "p90Millis", desc := "()D" } : Jvm.MethodName) prog_15_method_3_code (1 : Nat) (Option.some Jvm.ClassFile.FieldType.double), Jvm.Cond.code ({ cls := "com/example/tolc/tolc/Percentiles", name := "nearestRank", desc := "([JII)J" } : Jvm.MethodName) prog_14_method_2_code (6 : Nat) (Option.some Jvm.ClassFile.FieldType.long), Jvm.Cond.code ({ cls := "java/util/Arrays", name := "copyOf", desc := "([JI)[J" } : Jvm.MethodName) jdk_65_method_124_code (3 : Nat) (Option.some (Jvm.ClassFile.FieldType.array Jvm.ClassFile.FieldType.long)), Jvm.Cond.code ({ cls := "java/util/Arrays", name := "sort", desc := "([J)V" } : Jvm.MethodName) jdk_65_method_4_code (1 : Nat) (Option.none : Option Jvm.ClassFile.FieldType), Jvm.Cond.code ({ cls := "java/util/DualPivotQuicksort", name := "sort", desc := "([JIII)V" } : Jvm.MethodName) jdk_2529_method_12_code (7 : Nat) (Option.none : Option Jvm.ClassFile.FieldType), Jvm.Cond.code ({ cls := "java/util/DualPivotQuicksort", name := "sort", desc := "(Ljava/util/DualPivotQuicksort$Sorter;[JIII)V" } : Jvm.MethodName) jdk_2529_method_13_code (25 : Nat) (Option.none : Option Jvm.ClassFile.FieldType), Jvm.Cond.code ({ cls := "java/util/DualPivotQuicksort", name := "insertionSort", desc := "([JII)V" } : Jvm.MethodName) jdk_2529_method_15_code (7 : Nat) (Option.none : Option Jvm.ClassFile.FieldType), Jvm.Cond.code ({ cls := "java/lang/Math", name := "max", desc := "(JJ)J" } : Jvm.MethodName) jdk_29_method_66_code (4 : Nat) (Option.some Jvm.ClassFile.FieldType.long)]
set_option maxRecDepth 65536 in
theorem codes_eq : words1.filter isCode = codes1 := rfl
theorem w_codes : ∀ c ∈ words1.filter isCode, c.before args0 about1 = true := by
  rw [codes_eq]
  intro c hc
  simp only [codes1, List.mem_cons, List.not_mem_nil, or_false] at hc
  rcases hc with rfl | rfl | rfl | rfl | rfl | rfl | rfl | rfl | rfl | rfl | rfl | rfl | rfl
  · exact w_c0
  · exact w_c1
  · exact w_c2
  · exact w_c3
  · exact w_c4
  · exact w_c5
  · exact w_c6
  · exact w_c7
  · exact w_c8
  · exact w_c9
  · exact w_c10
  · exact w_c11
  · exact w_c12
set_option maxRecDepth 65536 in
theorem w_t1 : (words1.take 24).all (fun c => isCode c || c.before args0 about1) = true := by decide +kernel
set_option maxRecDepth 65536 in
theorem w_t2 : ((words1.drop 24).take 24).all (fun c => isCode c || c.before args0 about1) = true := by decide +kernel
set_option maxRecDepth 65536 in
theorem w_t3 : ((words1.drop 24).drop 24).all (fun c => isCode c || c.before args0 about1) = true := by decide +kernel
theorem w_tables : (allAtoms (Jvm.Cond.code x code maxLocals ret :: tables_1)).before args0 about1 = true := by
  rw [allAtoms_all]
  show words1.all (fun c => c.before args0 about1) = true
  refine all_split ?_ w_codes
  rw [← List.take_append_drop 24 words1, List.all_append, w_t1, ← List.take_append_drop 24 (words1.drop 24), List.all_append, w_t2, w_t3]
  rfl
set_option maxRecDepth 65536 in
theorem w_case : (Jvm.Cond.and given_1 narrow_1).before args0 about1 = true := by decide +kernel
theorem w_applies : (headSpec (Jvm.Cond.code x code maxLocals ret :: tables_1) room_1).applies x e0.platform about1 = true :=
  (Spec.applies_iff w_frames).mpr ⟨w_running, w_runnable, w_alone, w_named, w_hears, w_ripe, w_room, w_tables⟩
theorem atStart : AtStart classFile x code maxLocals ret World_1 tables_1 room_1 Calls_1 rest_1 Pre_1 launch0 p0 e0 about1 theMethod args0 below0 :=
  ⟨lists_1, trivial, launch0.admits_env _ _ _, launch0.least_env, fairChoices_fair.cas, fairChoices_fair.clock, w_frames, w_args, w_heap, w_applies, trivial, trivial, w_case⟩
end start1
theorem witness_1 : WitnessClaimed_1 := ⟨start1.p0, start1.e0, start1.about1, start1.theMethod, start1.args0, start1.below0, start1.atStart⟩
end Jvm.Pilot.@@N@@
