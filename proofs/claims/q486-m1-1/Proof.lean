import JvmDerived
import JvmDerived.Pilot.@@N@@Statement
import JvmDerived.Pilot.@@N@@Code
set_option linter.unusedVariables false
set_option linter.unusedSimpArgs false
namespace Jvm.RoadKit
open Sem ClassFile Op Lib Jvm.Stand Jvm.Free Jvm.LawKit
section New
variable {p : Program} {l : Launch} {e : Env} {R : Room} {s : State} {m : MethodId} {args : Array Value} {below : List Frame} {meth : Method} {c : Code} {T : State} {locs : List Loc} {cells slots : Nat}
theorem retI (X : Stand p l e R s m args below meth c T locs cells slots) (hx : p.tables.exec = Jvm.exec) {pc : Nat} {Ls : Array Slot} {z : Int32} {rest : List Value} (hret : meth.sig.returnType = some .int) (hd : decode c.code pc = .ok (.ireturn, 1)) {fs : List Frame}
    (hl : ∀ (f : JFrame) (acts : List Action), f.method = m → f.locked = none → f.entered = [] → (doReturn e (T.setTop f) acts (some (.int z))).1 = T.setFrames fs) : Steps p.tables e below (T.setTop (mkF m pc Ls (.int z :: rest))) (T.setFrames fs) := by
  have hm' : T.vm.method? m = some meth := X.method'
  have hn : narrow .int (.int z) = .int z := rfl
  show Steps p.tables e below (T.setTop { method := m, pc := pc, locals := Ls, stack := _ :: rest, locked := none }) _
  jvm_step X.here [X.here.top, hx, hd, hm', hret, hn]
  first | (intro acts; rw [hl _ acts rfl rfl rfl]) | rw [hl _ _ rfl rfl rfl]
  exact Steps.refl _
theorem retJ (X : Stand p l e R s m args below meth c T locs cells slots) (hx : p.tables.exec = Jvm.exec) {pc : Nat} {Ls : Array Slot} {z : Int64} {rest : List Value} (hret : meth.sig.returnType = some .long) (hd : decode c.code pc = .ok (.lreturn, 1)) {fs : List Frame}
    (hl : ∀ (f : JFrame) (acts : List Action), f.method = m → f.locked = none → f.entered = [] → (doReturn e (T.setTop f) acts (some (.long z))).1 = T.setFrames fs) : Steps p.tables e below (T.setTop (mkF m pc Ls (.long z :: rest))) (T.setFrames fs) := by
  have hm' : T.vm.method? m = some meth := X.method'
  have hn : narrow .long (.long z) = .long z := rfl
  show Steps p.tables e below (T.setTop { method := m, pc := pc, locals := Ls, stack := _ :: rest, locked := none }) _
  jvm_step X.here [X.here.top, hx, hd, hm', hret, hn]
  first | (intro acts; rw [hl _ acts rfl rfl rfl]) | rw [hl _ _ rfl rfl rfl]
  exact Steps.refl _
end New
end Jvm.RoadKit
namespace Jvm.Pilot.@@N@@
open Jvm Jvm.ClassFile Sem Op Lib Jvm.Free Jvm.Stand Jvm.LawKit Jvm.RoadKit Bundle Jvm.Pilot.@@N@@.Jvm.D
def QV (w : Option Value) (h0 : Heap) (n0 : Nat) (v : Option Value) (h : Heap) (L : List Loc) : Prop := v = w ∧ Fr n0 L ∧ h = h0
theorem d1_0 : decode prog_57_method_11_code 0 = .ok (.iload_n 0, 1) := by decide +kernel
theorem d1_1 : decode prog_57_method_11_code 1 = .ok (.bipush 6, 2) := by decide +kernel
theorem d1_3 : decode prog_57_method_11_code 3 = .ok (.if_icmp .eq 15, 3) := by decide +kernel
theorem d1_18 : decode prog_57_method_11_code 18 = .ok (.iconst 2, 1) := by decide +kernel
theorem d1_19 : decode prog_57_method_11_code 19 = .ok (.goto 4, 3) := by decide +kernel
theorem d1_23 : decode prog_57_method_11_code 23 = .ok (.ireturn, 1) := by decide +kernel
theorem pn_1 : plainName "com/example/ratatoskr/ratatoskr/mqtt/Packets" = true := by first | (simp [plainName, overriddenIn]; done) | decide +kernel
theorem ef_1 (m : MethodId) (x0 : Int32) : entryFrame m #[(.int x0)] 1 = mkF m 0 #[.val (.int x0)] [] := by first | (simp [entryFrame, mkF, argsToLocals, Value.category]; done) | rfl
theorem d1_6 : decode prog_57_method_11_code 6 = .ok (.iload_n 0, 1) := by decide +kernel
theorem d1_7 : decode prog_57_method_11_code 7 = .ok (.bipush 8, 2) := by decide +kernel
theorem d1_9 : decode prog_57_method_11_code 9 = .ok (.if_icmp .eq 9, 3) := by decide +kernel
theorem d1_12 : decode prog_57_method_11_code 12 = .ok (.iload_n 0, 1) := by decide +kernel
theorem d1_13 : decode prog_57_method_11_code 13 = .ok (.bipush 10, 2) := by decide +kernel
theorem d1_15 : decode prog_57_method_11_code 15 = .ok (.if_icmp .ne 7, 3) := by decide +kernel
theorem d1_22 : decode prog_57_method_11_code 22 = .ok (.iconst 0, 1) := by decide +kernel
set_option maxRecDepth 65536 in
set_option maxHeartbeats 40000000 in
theorem rm1_t (l : Launch) (Z : State) (a0 : Array Value) (hw : ∀ d ∈ tables_1, d.before a0 Z = true) (ws : List Jvm.Cond) (p1 : Int32) (h0 : Heap) (n0 : Nat) (Z0 : n0 ≤ h0.size) (hc3 : p1 = (6 : Int32)) :
    MetFree l (⟨"com/example/ratatoskr/ratatoskr/mqtt/Packets", "fixedFlags", "(I)I"⟩ : MethodName) (head1 (Jvm.Cond.code (⟨"com/example/ratatoskr/ratatoskr/mqtt/Packets", "fixedFlags", "(I)I"⟩ : MethodName) prog_57_method_11_code 1 (some .int) :: ws) ({ frames := 0, cells := 0, slots := 0, locals := 0 } : Room)) (fun a U => a = #[(.int p1)] ∧ Z.Warmed39 U.vm ∧ U.heap = h0) (fun _ _ _ _ _ => True) (fun _ U o U' => ∃ v L, o = .returned v ∧ QV (some (.int (2 : Int32))) h0 n0 v U'.heap L ∧ FrameEnd U o U' L ({ frames := 0, cells := 0, slots := 0, locals := 0 } : Room).cells ({ frames := 0, cells := 0, slots := 0, locals := 0 } : Room).slots) := by
  refine MetFree.of_bodySF (plainFor_of_name pn_1) hisR ?_
  intro p e s m args below meth c s₁ Bd hml0 hP hK
  obtain ⟨rfl, hZ, hh⟩ := hP
  have hx := Bd.exec
  have hby := Bd.bytes
  have hml : c.maxLocals = 1 := hml0
  have hown : s.vm.findClass "com/example/ratatoskr/ratatoskr/mqtt/Packets" = some m.cls := findClass_of_methodNamed Bd.named
  have hnm := (name_of_methodNamed Bd.named Bd.method).1
  have X0 : Stand p l e ({ frames := 0, cells := 0, slots := 0, locals := 0 } : Room) s m #[(.int p1)] below meth c s₁ [] 0 0 := Stand.of_body Bd
  have e0 : s₁.heap = h0 := by rw [← hh, Bd.state]; rfl
  have N0 := Fr.nil n0
  have pre0 : ∀ t, Steps p.tables e below (s₁.setTop (mkF m 0 #[.val (.int p1)] [])) t → Steps p.tables e below (s₁.setTop (entryFrame m #[(.int p1)] 1)) t := fun t k => castTop (ef_1 m p1) k

  obtain ⟨fs, hr, hrun, hended, hW, hsame⟩ := X0.leave (v := some (.int (2 : Int32))) (fun h => by rw [Bd.returns] at h; cases h)
  refine ⟨_, _, pre0 _ ?_, hrun, hended, _, _, rfl, ?_, ⟨_, rfl⟩, hW, hsame.mono (by decide) (by decide)⟩
  · show Steps p.tables e below (s₁.setTop (mkF m 0 #[.val (.int p1)] [])) _
    refine XS.iloadN X0.here hx rfl (hb hby d1_0) rfl ?_
    show Steps p.tables e below (s₁.setTop (mkF m 1 #[.val (.int p1)] [(.int p1)])) _
    refine XS.bipush X0.here hx rfl (hb hby d1_1) ?_
    show Steps p.tables e below (s₁.setTop (mkF m 3 #[.val (.int p1)] [(.int (6 : Int32)), (.int p1)])) _
    refine XS.icmpYes X0.here hx rfl (pc0 := 3) (pc' := 18) rfl (hb hby d1_3) rfl (teq hc3).1 (by decide) (by decide) ?_
    show Steps p.tables e below (s₁.setTop (mkF m 18 #[.val (.int p1)] [])) _
    refine XS.iconst X0.here hx rfl (hb hby d1_18) ?_
    show Steps p.tables e below (s₁.setTop (mkF m 19 #[.val (.int p1)] [(.int (2 : Int32))])) _
    refine XS.goto X0.here hx rfl (pc0 := 19) (pc' := 23) rfl (hb hby d1_19) (by decide) (by decide) ?_
    show Steps p.tables e below (s₁.setTop (mkF m 23 #[.val (.int p1)] [(.int (2 : Int32))])) _
    exact retI X0 hx Bd.returns (hb hby d1_23) hr
  · show QV (some (.int (2 : Int32))) h0 n0 _ s₁.heap _
    rw [e0]
    exact ⟨rfl, N0, rfl⟩
set_option maxRecDepth 65536 in
set_option maxHeartbeats 40000000 in
theorem rm1_ft (l : Launch) (Z : State) (a0 : Array Value) (hw : ∀ d ∈ tables_1, d.before a0 Z = true) (ws : List Jvm.Cond) (p1 : Int32) (h0 : Heap) (n0 : Nat) (Z0 : n0 ≤ h0.size) (hc3 : ¬ (p1 = (6 : Int32))) (hc9 : p1 = (8 : Int32)) :
    MetFree l (⟨"com/example/ratatoskr/ratatoskr/mqtt/Packets", "fixedFlags", "(I)I"⟩ : MethodName) (head1 (Jvm.Cond.code (⟨"com/example/ratatoskr/ratatoskr/mqtt/Packets", "fixedFlags", "(I)I"⟩ : MethodName) prog_57_method_11_code 1 (some .int) :: ws) ({ frames := 0, cells := 0, slots := 0, locals := 0 } : Room)) (fun a U => a = #[(.int p1)] ∧ Z.Warmed39 U.vm ∧ U.heap = h0) (fun _ _ _ _ _ => True) (fun _ U o U' => ∃ v L, o = .returned v ∧ QV (some (.int (2 : Int32))) h0 n0 v U'.heap L ∧ FrameEnd U o U' L ({ frames := 0, cells := 0, slots := 0, locals := 0 } : Room).cells ({ frames := 0, cells := 0, slots := 0, locals := 0 } : Room).slots) := by
  refine MetFree.of_bodySF (plainFor_of_name pn_1) hisR ?_
  intro p e s m args below meth c s₁ Bd hml0 hP hK
  obtain ⟨rfl, hZ, hh⟩ := hP
  have hx := Bd.exec
  have hby := Bd.bytes
  have hml : c.maxLocals = 1 := hml0
  have hown : s.vm.findClass "com/example/ratatoskr/ratatoskr/mqtt/Packets" = some m.cls := findClass_of_methodNamed Bd.named
  have hnm := (name_of_methodNamed Bd.named Bd.method).1
  have X0 : Stand p l e ({ frames := 0, cells := 0, slots := 0, locals := 0 } : Room) s m #[(.int p1)] below meth c s₁ [] 0 0 := Stand.of_body Bd
  have e0 : s₁.heap = h0 := by rw [← hh, Bd.state]; rfl
  have N0 := Fr.nil n0
  have pre0 : ∀ t, Steps p.tables e below (s₁.setTop (mkF m 0 #[.val (.int p1)] [])) t → Steps p.tables e below (s₁.setTop (entryFrame m #[(.int p1)] 1)) t := fun t k => castTop (ef_1 m p1) k

  obtain ⟨fs, hr, hrun, hended, hW, hsame⟩ := X0.leave (v := some (.int (2 : Int32))) (fun h => by rw [Bd.returns] at h; cases h)
  refine ⟨_, _, pre0 _ ?_, hrun, hended, _, _, rfl, ?_, ⟨_, rfl⟩, hW, hsame.mono (by decide) (by decide)⟩
  · show Steps p.tables e below (s₁.setTop (mkF m 0 #[.val (.int p1)] [])) _
    refine XS.iloadN X0.here hx rfl (hb hby d1_0) rfl ?_
    show Steps p.tables e below (s₁.setTop (mkF m 1 #[.val (.int p1)] [(.int p1)])) _
    refine XS.bipush X0.here hx rfl (hb hby d1_1) ?_
    show Steps p.tables e below (s₁.setTop (mkF m 3 #[.val (.int p1)] [(.int (6 : Int32)), (.int p1)])) _
    refine XS.icmpNo X0.here hx rfl (hb hby d1_3) rfl (feq hc3).1 ?_
    show Steps p.tables e below (s₁.setTop (mkF m 6 #[.val (.int p1)] [])) _
    refine XS.iloadN X0.here hx rfl (hb hby d1_6) rfl ?_
    show Steps p.tables e below (s₁.setTop (mkF m 7 #[.val (.int p1)] [(.int p1)])) _
    refine XS.bipush X0.here hx rfl (hb hby d1_7) ?_
    show Steps p.tables e below (s₁.setTop (mkF m 9 #[.val (.int p1)] [(.int (8 : Int32)), (.int p1)])) _
    refine XS.icmpYes X0.here hx rfl (pc0 := 9) (pc' := 18) rfl (hb hby d1_9) rfl (teq hc9).1 (by decide) (by decide) ?_
    show Steps p.tables e below (s₁.setTop (mkF m 18 #[.val (.int p1)] [])) _
    refine XS.iconst X0.here hx rfl (hb hby d1_18) ?_
    show Steps p.tables e below (s₁.setTop (mkF m 19 #[.val (.int p1)] [(.int (2 : Int32))])) _
    refine XS.goto X0.here hx rfl (pc0 := 19) (pc' := 23) rfl (hb hby d1_19) (by decide) (by decide) ?_
    show Steps p.tables e below (s₁.setTop (mkF m 23 #[.val (.int p1)] [(.int (2 : Int32))])) _
    exact retI X0 hx Bd.returns (hb hby d1_23) hr
  · show QV (some (.int (2 : Int32))) h0 n0 _ s₁.heap _
    rw [e0]
    exact ⟨rfl, N0, rfl⟩
set_option maxRecDepth 65536 in
set_option maxHeartbeats 40000000 in
theorem rm1_fft (l : Launch) (Z : State) (a0 : Array Value) (hw : ∀ d ∈ tables_1, d.before a0 Z = true) (ws : List Jvm.Cond) (p1 : Int32) (h0 : Heap) (n0 : Nat) (Z0 : n0 ≤ h0.size) (hc3 : ¬ (p1 = (6 : Int32))) (hc9 : ¬ (p1 = (8 : Int32))) (hc15 : ¬ (p1 = (10 : Int32))) :
    MetFree l (⟨"com/example/ratatoskr/ratatoskr/mqtt/Packets", "fixedFlags", "(I)I"⟩ : MethodName) (head1 (Jvm.Cond.code (⟨"com/example/ratatoskr/ratatoskr/mqtt/Packets", "fixedFlags", "(I)I"⟩ : MethodName) prog_57_method_11_code 1 (some .int) :: ws) ({ frames := 0, cells := 0, slots := 0, locals := 0 } : Room)) (fun a U => a = #[(.int p1)] ∧ Z.Warmed39 U.vm ∧ U.heap = h0) (fun _ _ _ _ _ => True) (fun _ U o U' => ∃ v L, o = .returned v ∧ QV (some (.int (0 : Int32))) h0 n0 v U'.heap L ∧ FrameEnd U o U' L ({ frames := 0, cells := 0, slots := 0, locals := 0 } : Room).cells ({ frames := 0, cells := 0, slots := 0, locals := 0 } : Room).slots) := by
  refine MetFree.of_bodySF (plainFor_of_name pn_1) hisR ?_
  intro p e s m args below meth c s₁ Bd hml0 hP hK
  obtain ⟨rfl, hZ, hh⟩ := hP
  have hx := Bd.exec
  have hby := Bd.bytes
  have hml : c.maxLocals = 1 := hml0
  have hown : s.vm.findClass "com/example/ratatoskr/ratatoskr/mqtt/Packets" = some m.cls := findClass_of_methodNamed Bd.named
  have hnm := (name_of_methodNamed Bd.named Bd.method).1
  have X0 : Stand p l e ({ frames := 0, cells := 0, slots := 0, locals := 0 } : Room) s m #[(.int p1)] below meth c s₁ [] 0 0 := Stand.of_body Bd
  have e0 : s₁.heap = h0 := by rw [← hh, Bd.state]; rfl
  have N0 := Fr.nil n0
  have pre0 : ∀ t, Steps p.tables e below (s₁.setTop (mkF m 0 #[.val (.int p1)] [])) t → Steps p.tables e below (s₁.setTop (entryFrame m #[(.int p1)] 1)) t := fun t k => castTop (ef_1 m p1) k

  obtain ⟨fs, hr, hrun, hended, hW, hsame⟩ := X0.leave (v := some (.int (0 : Int32))) (fun h => by rw [Bd.returns] at h; cases h)
  refine ⟨_, _, pre0 _ ?_, hrun, hended, _, _, rfl, ?_, ⟨_, rfl⟩, hW, hsame.mono (by decide) (by decide)⟩
  · show Steps p.tables e below (s₁.setTop (mkF m 0 #[.val (.int p1)] [])) _
    refine XS.iloadN X0.here hx rfl (hb hby d1_0) rfl ?_
    show Steps p.tables e below (s₁.setTop (mkF m 1 #[.val (.int p1)] [(.int p1)])) _
    refine XS.bipush X0.here hx rfl (hb hby d1_1) ?_
    show Steps p.tables e below (s₁.setTop (mkF m 3 #[.val (.int p1)] [(.int (6 : Int32)), (.int p1)])) _
    refine XS.icmpNo X0.here hx rfl (hb hby d1_3) rfl (feq hc3).1 ?_
    show Steps p.tables e below (s₁.setTop (mkF m 6 #[.val (.int p1)] [])) _
    refine XS.iloadN X0.here hx rfl (hb hby d1_6) rfl ?_
    show Steps p.tables e below (s₁.setTop (mkF m 7 #[.val (.int p1)] [(.int p1)])) _
    refine XS.bipush X0.here hx rfl (hb hby d1_7) ?_
    show Steps p.tables e below (s₁.setTop (mkF m 9 #[.val (.int p1)] [(.int (8 : Int32)), (.int p1)])) _
    refine XS.icmpNo X0.here hx rfl (hb hby d1_9) rfl (feq hc9).1 ?_
    show Steps p.tables e below (s₁.setTop (mkF m 12 #[.val (.int p1)] [])) _
    refine XS.iloadN X0.here hx rfl (hb hby d1_12) rfl ?_
    show Steps p.tables e below (s₁.setTop (mkF m 13 #[.val (.int p1)] [(.int p1)])) _
    refine XS.bipush X0.here hx rfl (hb hby d1_13) ?_
    show Steps p.tables e below (s₁.setTop (mkF m 15 #[.val (.int p1)] [(.int (10 : Int32)), (.int p1)])) _
    refine XS.icmpYes X0.here hx rfl (pc0 := 15) (pc' := 22) rfl (hb hby d1_15) rfl (feq hc15).2 (by decide) (by decide) ?_
    show Steps p.tables e below (s₁.setTop (mkF m 22 #[.val (.int p1)] [])) _
    refine XS.iconst X0.here hx rfl (hb hby d1_22) ?_
    show Steps p.tables e below (s₁.setTop (mkF m 23 #[.val (.int p1)] [(.int (0 : Int32))])) _
    exact retI X0 hx Bd.returns (hb hby d1_23) hr
  · show QV (some (.int (0 : Int32))) h0 n0 _ s₁.heap _
    rw [e0]
    exact ⟨rfl, N0, rfl⟩
set_option maxRecDepth 65536 in
set_option maxHeartbeats 40000000 in
theorem rm1_fff (l : Launch) (Z : State) (a0 : Array Value) (hw : ∀ d ∈ tables_1, d.before a0 Z = true) (ws : List Jvm.Cond) (p1 : Int32) (h0 : Heap) (n0 : Nat) (Z0 : n0 ≤ h0.size) (hc3 : ¬ (p1 = (6 : Int32))) (hc9 : ¬ (p1 = (8 : Int32))) (hc15 : p1 = (10 : Int32)) :
    MetFree l (⟨"com/example/ratatoskr/ratatoskr/mqtt/Packets", "fixedFlags", "(I)I"⟩ : MethodName) (head1 (Jvm.Cond.code (⟨"com/example/ratatoskr/ratatoskr/mqtt/Packets", "fixedFlags", "(I)I"⟩ : MethodName) prog_57_method_11_code 1 (some .int) :: ws) ({ frames := 0, cells := 0, slots := 0, locals := 0 } : Room)) (fun a U => a = #[(.int p1)] ∧ Z.Warmed39 U.vm ∧ U.heap = h0) (fun _ _ _ _ _ => True) (fun _ U o U' => ∃ v L, o = .returned v ∧ QV (some (.int (2 : Int32))) h0 n0 v U'.heap L ∧ FrameEnd U o U' L ({ frames := 0, cells := 0, slots := 0, locals := 0 } : Room).cells ({ frames := 0, cells := 0, slots := 0, locals := 0 } : Room).slots) := by
  refine MetFree.of_bodySF (plainFor_of_name pn_1) hisR ?_
  intro p e s m args below meth c s₁ Bd hml0 hP hK
  obtain ⟨rfl, hZ, hh⟩ := hP
  have hx := Bd.exec
  have hby := Bd.bytes
  have hml : c.maxLocals = 1 := hml0
  have hown : s.vm.findClass "com/example/ratatoskr/ratatoskr/mqtt/Packets" = some m.cls := findClass_of_methodNamed Bd.named
  have hnm := (name_of_methodNamed Bd.named Bd.method).1
  have X0 : Stand p l e ({ frames := 0, cells := 0, slots := 0, locals := 0 } : Room) s m #[(.int p1)] below meth c s₁ [] 0 0 := Stand.of_body Bd
  have e0 : s₁.heap = h0 := by rw [← hh, Bd.state]; rfl
  have N0 := Fr.nil n0
  have pre0 : ∀ t, Steps p.tables e below (s₁.setTop (mkF m 0 #[.val (.int p1)] [])) t → Steps p.tables e below (s₁.setTop (entryFrame m #[(.int p1)] 1)) t := fun t k => castTop (ef_1 m p1) k

  obtain ⟨fs, hr, hrun, hended, hW, hsame⟩ := X0.leave (v := some (.int (2 : Int32))) (fun h => by rw [Bd.returns] at h; cases h)
  refine ⟨_, _, pre0 _ ?_, hrun, hended, _, _, rfl, ?_, ⟨_, rfl⟩, hW, hsame.mono (by decide) (by decide)⟩
  · show Steps p.tables e below (s₁.setTop (mkF m 0 #[.val (.int p1)] [])) _
    refine XS.iloadN X0.here hx rfl (hb hby d1_0) rfl ?_
    show Steps p.tables e below (s₁.setTop (mkF m 1 #[.val (.int p1)] [(.int p1)])) _
    refine XS.bipush X0.here hx rfl (hb hby d1_1) ?_
    show Steps p.tables e below (s₁.setTop (mkF m 3 #[.val (.int p1)] [(.int (6 : Int32)), (.int p1)])) _
    refine XS.icmpNo X0.here hx rfl (hb hby d1_3) rfl (feq hc3).1 ?_
    show Steps p.tables e below (s₁.setTop (mkF m 6 #[.val (.int p1)] [])) _
    refine XS.iloadN X0.here hx rfl (hb hby d1_6) rfl ?_
    show Steps p.tables e below (s₁.setTop (mkF m 7 #[.val (.int p1)] [(.int p1)])) _
    refine XS.bipush X0.here hx rfl (hb hby d1_7) ?_
    show Steps p.tables e below (s₁.setTop (mkF m 9 #[.val (.int p1)] [(.int (8 : Int32)), (.int p1)])) _
    refine XS.icmpNo X0.here hx rfl (hb hby d1_9) rfl (feq hc9).1 ?_
    show Steps p.tables e below (s₁.setTop (mkF m 12 #[.val (.int p1)] [])) _
    refine XS.iloadN X0.here hx rfl (hb hby d1_12) rfl ?_
    show Steps p.tables e below (s₁.setTop (mkF m 13 #[.val (.int p1)] [(.int p1)])) _
    refine XS.bipush X0.here hx rfl (hb hby d1_13) ?_
    show Steps p.tables e below (s₁.setTop (mkF m 15 #[.val (.int p1)] [(.int (10 : Int32)), (.int p1)])) _
    refine XS.icmpNo X0.here hx rfl (hb hby d1_15) rfl (teq hc15).2 ?_
    show Steps p.tables e below (s₁.setTop (mkF m 18 #[.val (.int p1)] [])) _
    refine XS.iconst X0.here hx rfl (hb hby d1_18) ?_
    show Steps p.tables e below (s₁.setTop (mkF m 19 #[.val (.int p1)] [(.int (2 : Int32))])) _
    refine XS.goto X0.here hx rfl (pc0 := 19) (pc' := 23) rfl (hb hby d1_19) (by decide) (by decide) ?_
    show Steps p.tables e below (s₁.setTop (mkF m 23 #[.val (.int p1)] [(.int (2 : Int32))])) _
    exact retI X0 hx Bd.returns (hb hby d1_23) hr
  · show QV (some (.int (2 : Int32))) h0 n0 _ s₁.heap _
    rw [e0]
    exact ⟨rfl, N0, rfl⟩
def own_ff (p1 : Int32) : Int32 := (if p1 = (6 : Int32) then (2 : Int32) else (if p1 = (8 : Int32) then (2 : Int32) else (if p1 = (10 : Int32) then (2 : Int32) else (0 : Int32))))
theorem rm1 (l : Launch) (Z : State) (a0 : Array Value) (hw : ∀ d ∈ tables_1, d.before a0 Z = true) (ws : List Jvm.Cond) (p1 : Int32) (h0 : Heap) (n0 : Nat) (Z0 : n0 ≤ h0.size) :
    MetFree l (⟨"com/example/ratatoskr/ratatoskr/mqtt/Packets", "fixedFlags", "(I)I"⟩ : MethodName) (head1 (Jvm.Cond.code (⟨"com/example/ratatoskr/ratatoskr/mqtt/Packets", "fixedFlags", "(I)I"⟩ : MethodName) prog_57_method_11_code 1 (some .int) :: ws) ({ frames := 0, cells := 0, slots := 0, locals := 0 } : Room)) (fun a U => a = #[(.int p1)] ∧ Z.Warmed39 U.vm ∧ U.heap = h0) (fun _ _ _ _ _ => True) (fun _ U o U' => ∃ v L, o = .returned v ∧ QV (some (.int (own_ff p1))) h0 n0 v U'.heap L ∧ FrameEnd U o U' L ({ frames := 0, cells := 0, slots := 0, locals := 0 } : Room).cells ({ frames := 0, cells := 0, slots := 0, locals := 0 } : Room).slots) := by
  by_cases hc3 : p1 = (6 : Int32)
  · have he : own_ff p1 = (2 : Int32) := by unfold own_ff; rw [if_pos hc3]
    rw [he]; exact rm1_t l Z a0 hw ws p1 h0 n0 Z0 hc3
  · by_cases hc9 : p1 = (8 : Int32)
    · have he : own_ff p1 = (2 : Int32) := by unfold own_ff; rw [if_neg hc3, if_pos hc9]
      rw [he]; exact rm1_ft l Z a0 hw ws p1 h0 n0 Z0 hc3 hc9
    · by_cases hc15 : p1 = (10 : Int32)
      · have he : own_ff p1 = (2 : Int32) := by unfold own_ff; rw [if_neg hc3, if_neg hc9, if_pos hc15]
        rw [he]; exact rm1_fff l Z a0 hw ws p1 h0 n0 Z0 hc3 hc9 hc15
      · have he : own_ff p1 = (0 : Int32) := by unfold own_ff; rw [if_neg hc3, if_neg hc9, if_neg hc15]
        rw [he]; exact rm1_fft l Z a0 hw ws p1 h0 n0 Z0 hc3 hc9 hc15
theorem pn_0 : plainName "com/example/ratatoskr/ratatoskr/mqtt/PacketsFixedFlagsPinLaw" = true := by first | (simp [plainName, overriddenIn]; done) | decide +kernel
theorem pd_0_0 : parseMethodDescriptor "(I)I" = some ⟨[.int], some .int⟩ := by decide +kernel
theorem ef_0 (m : MethodId) (x0 : Int32) (x1 : Int32) : entryFrame m #[(.int x0), (.int x1)] maxLocals = mkF m 0 #[.val (.int x0), .val (.int x1), .unset, .unset, .unset, .unset, .unset] [] := by first | (simp [entryFrame, mkF, argsToLocals, Value.category, maxLocals]; done) | rfl
theorem own_at (j : Int32) (q0 : ¬ j < (0 : Int32)) (q1 : j < (16 : Int32)) : ([(.int (0 : Int32)), (.int (0 : Int32)), (.int (0 : Int32)), (.int (0 : Int32)), (.int (0 : Int32)), (.int (0 : Int32)), (.int (2 : Int32)), (.int (0 : Int32)), (.int (2 : Int32)), (.int (0 : Int32)), (.int (2 : Int32)), (.int (0 : Int32)), (.int (0 : Int32)), (.int (0 : Int32)), (.int (0 : Int32)), (.int (0 : Int32))] : List Value).getD j.toNatClampNeg (.int (0 : Int32)) = .int (own_ff j) := by
  have k0 : (0 : Int32).toInt = 0 := by decide
  have k16 : (16 : Int32).toInt = 16 := by decide
  rw [Int32.lt_iff_toInt_lt] at q0 q1
  have hj : j = Int32.ofNat j.toInt.toNat := by
    apply Int32.toInt_inj.mp
    rw [Int32.toInt_ofNat_of_lt (by omega)]
    omega
  have key : ∀ k : Fin 16, ([(.int (0 : Int32)), (.int (0 : Int32)), (.int (0 : Int32)), (.int (0 : Int32)), (.int (0 : Int32)), (.int (0 : Int32)), (.int (2 : Int32)), (.int (0 : Int32)), (.int (2 : Int32)), (.int (0 : Int32)), (.int (2 : Int32)), (.int (0 : Int32)), (.int (0 : Int32)), (.int (0 : Int32)), (.int (0 : Int32)), (.int (0 : Int32))] : List Value).getD (Int32.ofNat k.val).toNatClampNeg (.int (0 : Int32)) = .int (own_ff (Int32.ofNat k.val)) := by decide +kernel
  have h := key ⟨j.toInt.toNat, by omega⟩
  rw [hj]
  exact h
theorem own_low (p : Int32) : ¬ (p &&& (15 : Int32)) < (0 : Int32) ∧ (p &&& (15 : Int32)) < (16 : Int32) := by
  have hm : (p &&& (15 : Int32)).toInt = p.toInt % 16 := c_mask p 15 4 (by decide) (by decide)
  have k0 : (0 : Int32).toInt = 0 := by decide
  have k16 : (16 : Int32).toInt = 16 := by decide
  rw [Int32.lt_iff_toInt_lt, Int32.lt_iff_toInt_lt]
  omega
theorem own_zero (p : Int32) (h : ¬ (¬ p < (0 : Int32) ∧ p < (16 : Int32))) : own_ff p = (0 : Int32) := by
  by_cases h6 : p = 6
  · exact absurd (by rw [h6]; decide) h
  by_cases h8 : p = 8
  · exact absurd (by rw [h8]; decide) h
  by_cases h10 : p = 10
  · exact absurd (by rw [h10]; decide) h
  unfold own_ff
  rw [if_neg h6, if_neg h8, if_neg h10]
def Q0 (Z : State) (p1 : Int32) (p2 : Int32) (h0 : Heap) (n0 : Nat) (v : Option Value) (h : Heap) (L : List Loc) : Prop := v = some (.int (1 : Int32)) ∧ Fr n0 L
set_option maxRecDepth 65536 in
set_option maxHeartbeats 40000000 in
theorem rm0_ftfff (l : Launch) (Z : State) (a0 : Array Value) (hw : ∀ d ∈ tables_1, d.before a0 Z = true) (ws : List Jvm.Cond) (p1 : Int32) (p2 : Int32) (h0 : Heap) (n0 : Nat) (Z0 : n0 ≤ h0.size) (hc102 : p2 < (0 : Int32)) (hc138 : ¬ ((1 : Int32) = (0 : Int32))) (hc143 : ¬ ((1 : Int32) = (0 : Int32))) (hc91 : (own_ff (p1 &&& (15 : Int32))) = (own_ff (p1 &&& (15 : Int32)))) (hc126 : (own_ff p2) = (0 : Int32)) :
    MetFree l x (head1 (Jvm.Cond.code x code maxLocals ret :: ws) room_1) (fun a U => a = #[(.int p1), (.int p2)] ∧ Z.Warmed39 U.vm ∧ U.heap = h0) (fun _ _ _ _ _ => True) (fun _ U o U' => ∃ v L, o = .returned v ∧ Q0 Z p1 p2 h0 n0 v U'.heap L ∧ FrameEnd U o U' L room_1.cells room_1.slots) := by
  refine MetFree.of_bodySF (plainFor_of_name pn_0) hisR ?_
  intro p e s m args below meth c s₁ Bd hml0 hP hK
  obtain ⟨rfl, hZ, hh⟩ := hP
  have hx := Bd.exec
  have hby := Bd.bytes
  have hml : c.maxLocals = 7 := hml0
  have hown : s.vm.findClass "com/example/ratatoskr/ratatoskr/mqtt/PacketsFixedFlagsPinLaw" = some m.cls := findClass_of_methodNamed Bd.named
  have hnm := (name_of_methodNamed Bd.named Bd.method).1
  have X0 : Stand p l e room_1 s m #[(.int p1), (.int p2)] below meth c s₁ [] 0 0 := Stand.of_body Bd
  have e0 : s₁.heap = h0 := by rw [← hh, Bd.state]; rfl
  have N0 := Fr.nil n0
  have pre0 : ∀ t, Steps p.tables e below (s₁.setTop (mkF m 0 #[.val (.int p1), .val (.int p2), .unset, .unset, .unset, .unset, .unset] [])) t → Steps p.tables e below (s₁.setTop (entryFrame m #[(.int p1), (.int p2)] maxLocals)) t := fun t k => castTop (ef_0 m p1 p2) k
  obtain ⟨T3, h3, k3, X3, e3, E3, A3, st3⟩ := newP X0 hx hZ (hw _ (List.mem_of_getElem? (i := 0) rfl)) e0 (g := (mkF m 2 #[.val (.int p1), .val (.int p2), .unset, .unset, .unset, .unset, .unset] [(.int (16 : Int32))])) rfl (hb hby at_2) rfl (by decide) (cap := 16) (by decide) (by decide) (by decide) (by decide)
  obtain ⟨b3, g3⟩ : ∃ z, z = h0.size := ⟨_, rfl⟩
  rw [← g3] at A3 st3
  have V_b3 : Arv Z h3 b3 k3 .int (16 : Int32) [(.int (0 : Int32)), (.int (0 : Int32)), (.int (0 : Int32)), (.int (0 : Int32)), (.int (0 : Int32)), (.int (0 : Int32)), (.int (0 : Int32)), (.int (0 : Int32)), (.int (0 : Int32)), (.int (0 : Int32)), (.int (0 : Int32)), (.int (0 : Int32)), (.int (0 : Int32)), (.int (0 : Int32)), (.int (0 : Int32)), (.int (0 : Int32))] (.int (0 : Int32)) := (Arv.new A3 (by decide)).pad (pad_rep [] (.int (0 : Int32)) 16)
  have g_b3 : n0 ≤ b3 := Nat.le_trans Z0 (Nat.le_of_eq g3.symm)
  have sz_b3 : h0.size ≤ b3 := (Nat.le_trans (Keep.refl h0 []).1 (Nat.le_of_eq g3.symm))
  have K3 : Keep h0 h3 [] := (Keep.refl h0 []).ext E3
  obtain ⟨cl_b3_7, Ar_b3, q_b3, S_b3, N_b3, H_b3, G_b3⟩ := V_b3
  have hin7 : ¬ ((0 : Int32) < 0 ∨ cl_b3_7.slots.size ≤ ((0 : Int32)).toNatClampNeg) := inb_of S_b3 ⟨by decide, by decide⟩
  obtain ⟨T4, h4, X4, e4, W4, st4⟩ := stI X3 hx hZ e3 Ar_b3 (j := (0 : Int32)) hin7 (g := (mkF m 7 #[.val (.int p1), .val (.int p2), .unset, .unset, .unset, .unset, .unset] [(.int (0 : Int32)), (.int (0 : Int32)), (.ref b3), (.ref b3)])) rfl rfl (hb hby at_7)
  have V_b3_4 := Arv.set Ar_b3 q_b3 S_b3 N_b3 H_b3 G_b3 rfl W4 0 rfl (Nat.le_of_ble_eq_true rfl)
  have K4 : Keep h0 h4 [] := K3.wr W4 (Or.inr sz_b3)
  have N4 := Fr.snoc X4 N0 g_b3
  obtain ⟨cl_b3_11, Ar_b3, q_b3, S_b3, N_b3, H_b3, G_b3⟩ := V_b3_4
  have hin11 : ¬ ((1 : Int32) < 0 ∨ cl_b3_11.slots.size ≤ ((1 : Int32)).toNatClampNeg) := inb_of S_b3 ⟨by decide, by decide⟩
  obtain ⟨T5, h5, X5, e5, W5, st5⟩ := stI X4 hx hZ e4 Ar_b3 (j := (1 : Int32)) hin11 (g := (mkF m 11 #[.val (.int p1), .val (.int p2), .unset, .unset, .unset, .unset, .unset] [(.int (0 : Int32)), (.int (1 : Int32)), (.ref b3), (.ref b3)])) rfl rfl (hb hby at_11)
  have V_b3_5 := Arv.set Ar_b3 q_b3 S_b3 N_b3 H_b3 G_b3 rfl W5 1 rfl (Nat.le_of_ble_eq_true rfl)
  have K5 : Keep h0 h5 [] := K4.wr W5 (Or.inr sz_b3)
  have N5 := Fr.snoc X5 N4 g_b3
  obtain ⟨cl_b3_15, Ar_b3, q_b3, S_b3, N_b3, H_b3, G_b3⟩ := V_b3_5
  have hin15 : ¬ ((2 : Int32) < 0 ∨ cl_b3_15.slots.size ≤ ((2 : Int32)).toNatClampNeg) := inb_of S_b3 ⟨by decide, by decide⟩
  obtain ⟨T6, h6, X6, e6, W6, st6⟩ := stI X5 hx hZ e5 Ar_b3 (j := (2 : Int32)) hin15 (g := (mkF m 15 #[.val (.int p1), .val (.int p2), .unset, .unset, .unset, .unset, .unset] [(.int (0 : Int32)), (.int (2 : Int32)), (.ref b3), (.ref b3)])) rfl rfl (hb hby at_15)
  have V_b3_6 := Arv.set Ar_b3 q_b3 S_b3 N_b3 H_b3 G_b3 rfl W6 2 rfl (Nat.le_of_ble_eq_true rfl)
  have K6 : Keep h0 h6 [] := K5.wr W6 (Or.inr sz_b3)
  have N6 := Fr.snoc X6 N5 g_b3
  obtain ⟨cl_b3_19, Ar_b3, q_b3, S_b3, N_b3, H_b3, G_b3⟩ := V_b3_6
  have hin19 : ¬ ((3 : Int32) < 0 ∨ cl_b3_19.slots.size ≤ ((3 : Int32)).toNatClampNeg) := inb_of S_b3 ⟨by decide, by decide⟩
  obtain ⟨T7, h7, X7, e7, W7, st7⟩ := stI X6 hx hZ e6 Ar_b3 (j := (3 : Int32)) hin19 (g := (mkF m 19 #[.val (.int p1), .val (.int p2), .unset, .unset, .unset, .unset, .unset] [(.int (0 : Int32)), (.int (3 : Int32)), (.ref b3), (.ref b3)])) rfl rfl (hb hby at_19)
  have V_b3_7 := Arv.set Ar_b3 q_b3 S_b3 N_b3 H_b3 G_b3 rfl W7 3 rfl (Nat.le_of_ble_eq_true rfl)
  have K7 : Keep h0 h7 [] := K6.wr W7 (Or.inr sz_b3)
  have N7 := Fr.snoc X7 N6 g_b3
  obtain ⟨cl_b3_23, Ar_b3, q_b3, S_b3, N_b3, H_b3, G_b3⟩ := V_b3_7
  have hin23 : ¬ ((4 : Int32) < 0 ∨ cl_b3_23.slots.size ≤ ((4 : Int32)).toNatClampNeg) := inb_of S_b3 ⟨by decide, by decide⟩
  obtain ⟨T8, h8, X8, e8, W8, st8⟩ := stI X7 hx hZ e7 Ar_b3 (j := (4 : Int32)) hin23 (g := (mkF m 23 #[.val (.int p1), .val (.int p2), .unset, .unset, .unset, .unset, .unset] [(.int (0 : Int32)), (.int (4 : Int32)), (.ref b3), (.ref b3)])) rfl rfl (hb hby at_23)
  have V_b3_8 := Arv.set Ar_b3 q_b3 S_b3 N_b3 H_b3 G_b3 rfl W8 4 rfl (Nat.le_of_ble_eq_true rfl)
  have K8 : Keep h0 h8 [] := K7.wr W8 (Or.inr sz_b3)
  have N8 := Fr.snoc X8 N7 g_b3
  obtain ⟨cl_b3_27, Ar_b3, q_b3, S_b3, N_b3, H_b3, G_b3⟩ := V_b3_8
  have hin27 : ¬ ((5 : Int32) < 0 ∨ cl_b3_27.slots.size ≤ ((5 : Int32)).toNatClampNeg) := inb_of S_b3 ⟨by decide, by decide⟩
  obtain ⟨T9, h9, X9, e9, W9, st9⟩ := stI X8 hx hZ e8 Ar_b3 (j := (5 : Int32)) hin27 (g := (mkF m 27 #[.val (.int p1), .val (.int p2), .unset, .unset, .unset, .unset, .unset] [(.int (0 : Int32)), (.int (5 : Int32)), (.ref b3), (.ref b3)])) rfl rfl (hb hby at_27)
  have V_b3_9 := Arv.set Ar_b3 q_b3 S_b3 N_b3 H_b3 G_b3 rfl W9 5 rfl (Nat.le_of_ble_eq_true rfl)
  have K9 : Keep h0 h9 [] := K8.wr W9 (Or.inr sz_b3)
  have N9 := Fr.snoc X9 N8 g_b3
  obtain ⟨cl_b3_32, Ar_b3, q_b3, S_b3, N_b3, H_b3, G_b3⟩ := V_b3_9
  have hin32 : ¬ ((6 : Int32) < 0 ∨ cl_b3_32.slots.size ≤ ((6 : Int32)).toNatClampNeg) := inb_of S_b3 ⟨by decide, by decide⟩
  obtain ⟨T10, h10, X10, e10, W10, st10⟩ := stI X9 hx hZ e9 Ar_b3 (j := (6 : Int32)) hin32 (g := (mkF m 32 #[.val (.int p1), .val (.int p2), .unset, .unset, .unset, .unset, .unset] [(.int (2 : Int32)), (.int (6 : Int32)), (.ref b3), (.ref b3)])) rfl rfl (hb hby at_32)
  have V_b3_10 := Arv.set Ar_b3 q_b3 S_b3 N_b3 H_b3 G_b3 rfl W10 6 rfl (Nat.le_of_ble_eq_true rfl)
  have K10 : Keep h0 h10 [] := K9.wr W10 (Or.inr sz_b3)
  have N10 := Fr.snoc X10 N9 g_b3
  obtain ⟨cl_b3_37, Ar_b3, q_b3, S_b3, N_b3, H_b3, G_b3⟩ := V_b3_10
  have hin37 : ¬ ((7 : Int32) < 0 ∨ cl_b3_37.slots.size ≤ ((7 : Int32)).toNatClampNeg) := inb_of S_b3 ⟨by decide, by decide⟩
  obtain ⟨T11, h11, X11, e11, W11, st11⟩ := stI X10 hx hZ e10 Ar_b3 (j := (7 : Int32)) hin37 (g := (mkF m 37 #[.val (.int p1), .val (.int p2), .unset, .unset, .unset, .unset, .unset] [(.int (0 : Int32)), (.int (7 : Int32)), (.ref b3), (.ref b3)])) rfl rfl (hb hby at_37)
  have V_b3_11 := Arv.set Ar_b3 q_b3 S_b3 N_b3 H_b3 G_b3 rfl W11 7 rfl (Nat.le_of_ble_eq_true rfl)
  have K11 : Keep h0 h11 [] := K10.wr W11 (Or.inr sz_b3)
  have N11 := Fr.snoc X11 N10 g_b3
  obtain ⟨cl_b3_42, Ar_b3, q_b3, S_b3, N_b3, H_b3, G_b3⟩ := V_b3_11
  have hin42 : ¬ ((8 : Int32) < 0 ∨ cl_b3_42.slots.size ≤ ((8 : Int32)).toNatClampNeg) := inb_of S_b3 ⟨by decide, by decide⟩
  obtain ⟨T12, h12, X12, e12, W12, st12⟩ := stI X11 hx hZ e11 Ar_b3 (j := (8 : Int32)) hin42 (g := (mkF m 42 #[.val (.int p1), .val (.int p2), .unset, .unset, .unset, .unset, .unset] [(.int (2 : Int32)), (.int (8 : Int32)), (.ref b3), (.ref b3)])) rfl rfl (hb hby at_42)
  have V_b3_12 := Arv.set Ar_b3 q_b3 S_b3 N_b3 H_b3 G_b3 rfl W12 8 rfl (Nat.le_of_ble_eq_true rfl)
  have K12 : Keep h0 h12 [] := K11.wr W12 (Or.inr sz_b3)
  have N12 := Fr.snoc X12 N11 g_b3
  obtain ⟨cl_b3_47, Ar_b3, q_b3, S_b3, N_b3, H_b3, G_b3⟩ := V_b3_12
  have hin47 : ¬ ((9 : Int32) < 0 ∨ cl_b3_47.slots.size ≤ ((9 : Int32)).toNatClampNeg) := inb_of S_b3 ⟨by decide, by decide⟩
  obtain ⟨T13, h13, X13, e13, W13, st13⟩ := stI X12 hx hZ e12 Ar_b3 (j := (9 : Int32)) hin47 (g := (mkF m 47 #[.val (.int p1), .val (.int p2), .unset, .unset, .unset, .unset, .unset] [(.int (0 : Int32)), (.int (9 : Int32)), (.ref b3), (.ref b3)])) rfl rfl (hb hby at_47)
  have V_b3_13 := Arv.set Ar_b3 q_b3 S_b3 N_b3 H_b3 G_b3 rfl W13 9 rfl (Nat.le_of_ble_eq_true rfl)
  have K13 : Keep h0 h13 [] := K12.wr W13 (Or.inr sz_b3)
  have N13 := Fr.snoc X13 N12 g_b3
  obtain ⟨cl_b3_52, Ar_b3, q_b3, S_b3, N_b3, H_b3, G_b3⟩ := V_b3_13
  have hin52 : ¬ ((10 : Int32) < 0 ∨ cl_b3_52.slots.size ≤ ((10 : Int32)).toNatClampNeg) := inb_of S_b3 ⟨by decide, by decide⟩
  obtain ⟨T14, h14, X14, e14, W14, st14⟩ := stI X13 hx hZ e13 Ar_b3 (j := (10 : Int32)) hin52 (g := (mkF m 52 #[.val (.int p1), .val (.int p2), .unset, .unset, .unset, .unset, .unset] [(.int (2 : Int32)), (.int (10 : Int32)), (.ref b3), (.ref b3)])) rfl rfl (hb hby at_52)
  have V_b3_14 := Arv.set Ar_b3 q_b3 S_b3 N_b3 H_b3 G_b3 rfl W14 10 rfl (Nat.le_of_ble_eq_true rfl)
  have K14 : Keep h0 h14 [] := K13.wr W14 (Or.inr sz_b3)
  have N14 := Fr.snoc X14 N13 g_b3
  obtain ⟨cl_b3_57, Ar_b3, q_b3, S_b3, N_b3, H_b3, G_b3⟩ := V_b3_14
  have hin57 : ¬ ((11 : Int32) < 0 ∨ cl_b3_57.slots.size ≤ ((11 : Int32)).toNatClampNeg) := inb_of S_b3 ⟨by decide, by decide⟩
  obtain ⟨T15, h15, X15, e15, W15, st15⟩ := stI X14 hx hZ e14 Ar_b3 (j := (11 : Int32)) hin57 (g := (mkF m 57 #[.val (.int p1), .val (.int p2), .unset, .unset, .unset, .unset, .unset] [(.int (0 : Int32)), (.int (11 : Int32)), (.ref b3), (.ref b3)])) rfl rfl (hb hby at_57)
  have V_b3_15 := Arv.set Ar_b3 q_b3 S_b3 N_b3 H_b3 G_b3 rfl W15 11 rfl (Nat.le_of_ble_eq_true rfl)
  have K15 : Keep h0 h15 [] := K14.wr W15 (Or.inr sz_b3)
  have N15 := Fr.snoc X15 N14 g_b3
  obtain ⟨cl_b3_62, Ar_b3, q_b3, S_b3, N_b3, H_b3, G_b3⟩ := V_b3_15
  have hin62 : ¬ ((12 : Int32) < 0 ∨ cl_b3_62.slots.size ≤ ((12 : Int32)).toNatClampNeg) := inb_of S_b3 ⟨by decide, by decide⟩
  obtain ⟨T16, h16, X16, e16, W16, st16⟩ := stI X15 hx hZ e15 Ar_b3 (j := (12 : Int32)) hin62 (g := (mkF m 62 #[.val (.int p1), .val (.int p2), .unset, .unset, .unset, .unset, .unset] [(.int (0 : Int32)), (.int (12 : Int32)), (.ref b3), (.ref b3)])) rfl rfl (hb hby at_62)
  have V_b3_16 := Arv.set Ar_b3 q_b3 S_b3 N_b3 H_b3 G_b3 rfl W16 12 rfl (Nat.le_of_ble_eq_true rfl)
  have K16 : Keep h0 h16 [] := K15.wr W16 (Or.inr sz_b3)
  have N16 := Fr.snoc X16 N15 g_b3
  obtain ⟨cl_b3_67, Ar_b3, q_b3, S_b3, N_b3, H_b3, G_b3⟩ := V_b3_16
  have hin67 : ¬ ((13 : Int32) < 0 ∨ cl_b3_67.slots.size ≤ ((13 : Int32)).toNatClampNeg) := inb_of S_b3 ⟨by decide, by decide⟩
  obtain ⟨T17, h17, X17, e17, W17, st17⟩ := stI X16 hx hZ e16 Ar_b3 (j := (13 : Int32)) hin67 (g := (mkF m 67 #[.val (.int p1), .val (.int p2), .unset, .unset, .unset, .unset, .unset] [(.int (0 : Int32)), (.int (13 : Int32)), (.ref b3), (.ref b3)])) rfl rfl (hb hby at_67)
  have V_b3_17 := Arv.set Ar_b3 q_b3 S_b3 N_b3 H_b3 G_b3 rfl W17 13 rfl (Nat.le_of_ble_eq_true rfl)
  have K17 : Keep h0 h17 [] := K16.wr W17 (Or.inr sz_b3)
  have N17 := Fr.snoc X17 N16 g_b3
  obtain ⟨cl_b3_72, Ar_b3, q_b3, S_b3, N_b3, H_b3, G_b3⟩ := V_b3_17
  have hin72 : ¬ ((14 : Int32) < 0 ∨ cl_b3_72.slots.size ≤ ((14 : Int32)).toNatClampNeg) := inb_of S_b3 ⟨by decide, by decide⟩
  obtain ⟨T18, h18, X18, e18, W18, st18⟩ := stI X17 hx hZ e17 Ar_b3 (j := (14 : Int32)) hin72 (g := (mkF m 72 #[.val (.int p1), .val (.int p2), .unset, .unset, .unset, .unset, .unset] [(.int (0 : Int32)), (.int (14 : Int32)), (.ref b3), (.ref b3)])) rfl rfl (hb hby at_72)
  have V_b3_18 := Arv.set Ar_b3 q_b3 S_b3 N_b3 H_b3 G_b3 rfl W18 14 rfl (Nat.le_of_ble_eq_true rfl)
  have K18 : Keep h0 h18 [] := K17.wr W18 (Or.inr sz_b3)
  have N18 := Fr.snoc X18 N17 g_b3
  obtain ⟨cl_b3_77, Ar_b3, q_b3, S_b3, N_b3, H_b3, G_b3⟩ := V_b3_18
  have hin77 : ¬ ((15 : Int32) < 0 ∨ cl_b3_77.slots.size ≤ ((15 : Int32)).toNatClampNeg) := inb_of S_b3 ⟨by decide, by decide⟩
  obtain ⟨T19, h19, X19, e19, W19, st19⟩ := stI X18 hx hZ e18 Ar_b3 (j := (15 : Int32)) hin77 (g := (mkF m 77 #[.val (.int p1), .val (.int p2), .unset, .unset, .unset, .unset, .unset] [(.int (0 : Int32)), (.int (15 : Int32)), (.ref b3), (.ref b3)])) rfl rfl (hb hby at_77)
  have V_b3_19 := Arv.set Ar_b3 q_b3 S_b3 N_b3 H_b3 G_b3 rfl W19 15 rfl (Nat.le_of_ble_eq_true rfl)
  have K19 : Keep h0 h19 [] := K18.wr W19 (Or.inr sz_b3)
  have N19 := Fr.snoc X19 N18 g_b3
  obtain ⟨_, _, ⟨T20, L20, k20, n20⟩, -, X20, ⟨Lc20, hQ20, l20, y20, z20⟩, st20⟩ := Jvm.LawKit.callS X19 hx (y := (⟨"com/example/ratatoskr/ratatoskr/mqtt/Packets", "fixedFlags", "(I)I"⟩ : MethodName)) hown (mvT hZ (hw _ (List.mem_of_getElem? (i := 1) rfl))) (mvT hZ (hw _ (List.mem_of_getElem? (i := 2) rfl))) (mvT hZ (hw _ (List.mem_of_getElem? (i := 3) rfl))) (mvT hZ (hw _ (List.mem_of_getElem? (i := 4) rfl))) (by decide) (backOf (W := 0) (rm1 l Z a0 hw [] (p1 &&& (15 : Int32)) h19 n0 (Nat.le_trans Z0 K19.1)) hZ (hw _ (List.mem_of_getElem? (i := 4) rfl)) (hw _ (List.mem_of_getElem? (i := 3) rfl)) (by decide) (by decide)) (g := (mkF m 85 #[.val (.int p1), .val (.int p2), .val (.ref b3), .val (.int (p1 &&& (15 : Int32))), .unset, .unset, .unset] [(.int (p1 &&& (15 : Int32)))])) rfl (by rw [hml]; rfl) (argsL := [(.int (p1 &&& (15 : Int32)))]) (rest := []) (lenOf pd_0_0 rfl) rfl (by show 2 * 0 + _ ≤ _; exact Nat.le_of_eq rfl) (hb hby at_85) (fun _ _ => ⟨rfl, e19, (Nat.le_of_ble_eq_true rfl), (Nat.le_of_ble_eq_true rfl)⟩)
  dsimp only [Pt.U, Pt.locs, Pt.cells, Pt.slots] at X20 l20 y20 z20 st20 hQ20
  subst l20 y20 z20
  obtain ⟨rfl, N20q, h20q⟩ := hQ20
  have Kq20 : Keep h19 T20.heap [] := by rw [h20q]; exact Keep.refl _ _
  have K20 : Keep h0 T20.heap [] := K19.trans Kq20 (fun _ q => nomatch q)
  have N20 := Fr.app N19 N20q
  have Vo90 := (show Arv Z T20.heap b3 k3 .int (16 : Int32) [(.int (0 : Int32)), (.int (0 : Int32)), (.int (0 : Int32)), (.int (0 : Int32)), (.int (0 : Int32)), (.int (0 : Int32)), (.int (2 : Int32)), (.int (0 : Int32)), (.int (2 : Int32)), (.int (0 : Int32)), (.int (2 : Int32)), (.int (0 : Int32)), (.int (0 : Int32)), (.int (0 : Int32)), (.int (0 : Int32)), (.int (0 : Int32))] (.int (0 : Int32)) from (V_b3_19.keep Kq20 List.not_mem_nil))
  obtain ⟨cl90_, Ar90_, q90_, S90_, N90_, H90_, G90_⟩ := Vo90
  have hin90 : ¬ ((p1 &&& (15 : Int32)) < 0 ∨ cl90_.slots.size ≤ ((p1 &&& (15 : Int32))).toNatClampNeg) := inb_of S90_ (own_low p1)
  have hat90 : cl90_.slots[((p1 &&& (15 : Int32))).toNatClampNeg]? = some (.int (own_ff (p1 &&& (15 : Int32)))) := by rw [H90_ _ (Nat.lt_of_not_le fun q => hin90 (Or.inr q))]; exact congrArg some (own_at _ (own_low p1).1 (own_low p1).2)
  obtain ⟨_, _, ⟨T21, L21, k21, n21⟩, -, X21, ⟨Lc21, hQ21, l21, y21, z21⟩, st21⟩ := Jvm.LawKit.callS X20 hx (y := (⟨"com/example/ratatoskr/ratatoskr/mqtt/Packets", "fixedFlags", "(I)I"⟩ : MethodName)) hown (mvT hZ (hw _ (List.mem_of_getElem? (i := 1) rfl))) (mvT hZ (hw _ (List.mem_of_getElem? (i := 2) rfl))) (mvT hZ (hw _ (List.mem_of_getElem? (i := 3) rfl))) (mvT hZ (hw _ (List.mem_of_getElem? (i := 4) rfl))) (by decide) (backOf (W := 0) (rm1 l Z a0 hw [] p2 T20.heap n0 (Nat.le_trans Z0 K20.1)) hZ (hw _ (List.mem_of_getElem? (i := 4) rfl)) (hw _ (List.mem_of_getElem? (i := 3) rfl)) (by decide) (by decide)) (g := (mkF m 121 #[.val (.int p1), .val (.int p2), .val (.ref b3), .val (.int (p1 &&& (15 : Int32))), .val (.int (1 : Int32)), .val (.int (0 : Int32)), .unset] [(.int p2)])) rfl (by rw [hml]; rfl) (argsL := [(.int p2)]) (rest := []) (lenOf pd_0_0 rfl) rfl (by show 2 * 0 + _ ≤ _; exact Nat.le_of_eq rfl) (hb hby at_121) (fun _ _ => ⟨rfl, rfl, (Nat.le_of_ble_eq_true rfl), (Nat.le_of_ble_eq_true rfl)⟩)
  dsimp only [Pt.U, Pt.locs, Pt.cells, Pt.slots] at X21 l21 y21 z21 st21 hQ21
  subst l21 y21 z21
  obtain ⟨rfl, N21q, h21q⟩ := hQ21
  have Kq21 : Keep T20.heap T21.heap [] := by rw [h21q]; exact Keep.refl _ _
  have K21 : Keep h0 T21.heap [] := K20.trans Kq21 (fun _ q => nomatch q)
  have N21 := Fr.app N20 N21q
  obtain ⟨fs, hr, hrun, hended, hW, hsame⟩ := X21.leave (v := some (.int (1 : Int32))) (fun h => by rw [Bd.returns] at h; cases h)
  refine ⟨_, _, pre0 _ ?_, hrun, hended, _, _, rfl, ?_, ⟨_, rfl⟩, hW, hsame.mono (by decide) (by decide)⟩
  · show Steps p.tables e below (s₁.setTop (mkF m 0 #[.val (.int p1), .val (.int p2), .unset, .unset, .unset, .unset, .unset] [])) _
    refine XS.bipush X0.here hx rfl (hb hby at_0) ?_
    show Steps p.tables e below (s₁.setTop (mkF m 2 #[.val (.int p1), .val (.int p2), .unset, .unset, .unset, .unset, .unset] [(.int (16 : Int32))])) _
    refine st3 _ ?_
    show Steps p.tables e below (T3.setTop (mkF m 4 #[.val (.int p1), .val (.int p2), .unset, .unset, .unset, .unset, .unset] [(.ref b3)])) _
    refine XS.dup X3.here hx rfl (hb hby at_4) rfl rfl ?_
    show Steps p.tables e below (T3.setTop (mkF m 5 #[.val (.int p1), .val (.int p2), .unset, .unset, .unset, .unset, .unset] [(.ref b3), (.ref b3)])) _
    refine XS.iconst X3.here hx rfl (hb hby at_5) ?_
    show Steps p.tables e below (T3.setTop (mkF m 6 #[.val (.int p1), .val (.int p2), .unset, .unset, .unset, .unset, .unset] [(.int (0 : Int32)), (.ref b3), (.ref b3)])) _
    refine XS.iconst X3.here hx rfl (hb hby at_6) ?_
    show Steps p.tables e below (T3.setTop (mkF m 7 #[.val (.int p1), .val (.int p2), .unset, .unset, .unset, .unset, .unset] [(.int (0 : Int32)), (.int (0 : Int32)), (.ref b3), (.ref b3)])) _
    refine st4 _ ?_
    show Steps p.tables e below (T4.setTop (mkF m 8 #[.val (.int p1), .val (.int p2), .unset, .unset, .unset, .unset, .unset] [(.ref b3)])) _
    refine XS.dup X4.here hx rfl (hb hby at_8) rfl rfl ?_
    show Steps p.tables e below (T4.setTop (mkF m 9 #[.val (.int p1), .val (.int p2), .unset, .unset, .unset, .unset, .unset] [(.ref b3), (.ref b3)])) _
    refine XS.iconst X4.here hx rfl (hb hby at_9) ?_
    show Steps p.tables e below (T4.setTop (mkF m 10 #[.val (.int p1), .val (.int p2), .unset, .unset, .unset, .unset, .unset] [(.int (1 : Int32)), (.ref b3), (.ref b3)])) _
    refine XS.iconst X4.here hx rfl (hb hby at_10) ?_
    show Steps p.tables e below (T4.setTop (mkF m 11 #[.val (.int p1), .val (.int p2), .unset, .unset, .unset, .unset, .unset] [(.int (0 : Int32)), (.int (1 : Int32)), (.ref b3), (.ref b3)])) _
    refine st5 _ ?_
    show Steps p.tables e below (T5.setTop (mkF m 12 #[.val (.int p1), .val (.int p2), .unset, .unset, .unset, .unset, .unset] [(.ref b3)])) _
    refine XS.dup X5.here hx rfl (hb hby at_12) rfl rfl ?_
    show Steps p.tables e below (T5.setTop (mkF m 13 #[.val (.int p1), .val (.int p2), .unset, .unset, .unset, .unset, .unset] [(.ref b3), (.ref b3)])) _
    refine XS.iconst X5.here hx rfl (hb hby at_13) ?_
    show Steps p.tables e below (T5.setTop (mkF m 14 #[.val (.int p1), .val (.int p2), .unset, .unset, .unset, .unset, .unset] [(.int (2 : Int32)), (.ref b3), (.ref b3)])) _
    refine XS.iconst X5.here hx rfl (hb hby at_14) ?_
    show Steps p.tables e below (T5.setTop (mkF m 15 #[.val (.int p1), .val (.int p2), .unset, .unset, .unset, .unset, .unset] [(.int (0 : Int32)), (.int (2 : Int32)), (.ref b3), (.ref b3)])) _
    refine st6 _ ?_
    show Steps p.tables e below (T6.setTop (mkF m 16 #[.val (.int p1), .val (.int p2), .unset, .unset, .unset, .unset, .unset] [(.ref b3)])) _
    refine XS.dup X6.here hx rfl (hb hby at_16) rfl rfl ?_
    show Steps p.tables e below (T6.setTop (mkF m 17 #[.val (.int p1), .val (.int p2), .unset, .unset, .unset, .unset, .unset] [(.ref b3), (.ref b3)])) _
    refine XS.iconst X6.here hx rfl (hb hby at_17) ?_
    show Steps p.tables e below (T6.setTop (mkF m 18 #[.val (.int p1), .val (.int p2), .unset, .unset, .unset, .unset, .unset] [(.int (3 : Int32)), (.ref b3), (.ref b3)])) _
    refine XS.iconst X6.here hx rfl (hb hby at_18) ?_
    show Steps p.tables e below (T6.setTop (mkF m 19 #[.val (.int p1), .val (.int p2), .unset, .unset, .unset, .unset, .unset] [(.int (0 : Int32)), (.int (3 : Int32)), (.ref b3), (.ref b3)])) _
    refine st7 _ ?_
    show Steps p.tables e below (T7.setTop (mkF m 20 #[.val (.int p1), .val (.int p2), .unset, .unset, .unset, .unset, .unset] [(.ref b3)])) _
    refine XS.dup X7.here hx rfl (hb hby at_20) rfl rfl ?_
    show Steps p.tables e below (T7.setTop (mkF m 21 #[.val (.int p1), .val (.int p2), .unset, .unset, .unset, .unset, .unset] [(.ref b3), (.ref b3)])) _
    refine XS.iconst X7.here hx rfl (hb hby at_21) ?_
    show Steps p.tables e below (T7.setTop (mkF m 22 #[.val (.int p1), .val (.int p2), .unset, .unset, .unset, .unset, .unset] [(.int (4 : Int32)), (.ref b3), (.ref b3)])) _
    refine XS.iconst X7.here hx rfl (hb hby at_22) ?_
    show Steps p.tables e below (T7.setTop (mkF m 23 #[.val (.int p1), .val (.int p2), .unset, .unset, .unset, .unset, .unset] [(.int (0 : Int32)), (.int (4 : Int32)), (.ref b3), (.ref b3)])) _
    refine st8 _ ?_
    show Steps p.tables e below (T8.setTop (mkF m 24 #[.val (.int p1), .val (.int p2), .unset, .unset, .unset, .unset, .unset] [(.ref b3)])) _
    refine XS.dup X8.here hx rfl (hb hby at_24) rfl rfl ?_
    show Steps p.tables e below (T8.setTop (mkF m 25 #[.val (.int p1), .val (.int p2), .unset, .unset, .unset, .unset, .unset] [(.ref b3), (.ref b3)])) _
    refine XS.iconst X8.here hx rfl (hb hby at_25) ?_
    show Steps p.tables e below (T8.setTop (mkF m 26 #[.val (.int p1), .val (.int p2), .unset, .unset, .unset, .unset, .unset] [(.int (5 : Int32)), (.ref b3), (.ref b3)])) _
    refine XS.iconst X8.here hx rfl (hb hby at_26) ?_
    show Steps p.tables e below (T8.setTop (mkF m 27 #[.val (.int p1), .val (.int p2), .unset, .unset, .unset, .unset, .unset] [(.int (0 : Int32)), (.int (5 : Int32)), (.ref b3), (.ref b3)])) _
    refine st9 _ ?_
    show Steps p.tables e below (T9.setTop (mkF m 28 #[.val (.int p1), .val (.int p2), .unset, .unset, .unset, .unset, .unset] [(.ref b3)])) _
    refine XS.dup X9.here hx rfl (hb hby at_28) rfl rfl ?_
    show Steps p.tables e below (T9.setTop (mkF m 29 #[.val (.int p1), .val (.int p2), .unset, .unset, .unset, .unset, .unset] [(.ref b3), (.ref b3)])) _
    refine XS.bipush X9.here hx rfl (hb hby at_29) ?_
    show Steps p.tables e below (T9.setTop (mkF m 31 #[.val (.int p1), .val (.int p2), .unset, .unset, .unset, .unset, .unset] [(.int (6 : Int32)), (.ref b3), (.ref b3)])) _
    refine XS.iconst X9.here hx rfl (hb hby at_31) ?_
    show Steps p.tables e below (T9.setTop (mkF m 32 #[.val (.int p1), .val (.int p2), .unset, .unset, .unset, .unset, .unset] [(.int (2 : Int32)), (.int (6 : Int32)), (.ref b3), (.ref b3)])) _
    refine st10 _ ?_
    show Steps p.tables e below (T10.setTop (mkF m 33 #[.val (.int p1), .val (.int p2), .unset, .unset, .unset, .unset, .unset] [(.ref b3)])) _
    refine XS.dup X10.here hx rfl (hb hby at_33) rfl rfl ?_
    show Steps p.tables e below (T10.setTop (mkF m 34 #[.val (.int p1), .val (.int p2), .unset, .unset, .unset, .unset, .unset] [(.ref b3), (.ref b3)])) _
    refine XS.bipush X10.here hx rfl (hb hby at_34) ?_
    show Steps p.tables e below (T10.setTop (mkF m 36 #[.val (.int p1), .val (.int p2), .unset, .unset, .unset, .unset, .unset] [(.int (7 : Int32)), (.ref b3), (.ref b3)])) _
    refine XS.iconst X10.here hx rfl (hb hby at_36) ?_
    show Steps p.tables e below (T10.setTop (mkF m 37 #[.val (.int p1), .val (.int p2), .unset, .unset, .unset, .unset, .unset] [(.int (0 : Int32)), (.int (7 : Int32)), (.ref b3), (.ref b3)])) _
    refine st11 _ ?_
    show Steps p.tables e below (T11.setTop (mkF m 38 #[.val (.int p1), .val (.int p2), .unset, .unset, .unset, .unset, .unset] [(.ref b3)])) _
    refine XS.dup X11.here hx rfl (hb hby at_38) rfl rfl ?_
    show Steps p.tables e below (T11.setTop (mkF m 39 #[.val (.int p1), .val (.int p2), .unset, .unset, .unset, .unset, .unset] [(.ref b3), (.ref b3)])) _
    refine XS.bipush X11.here hx rfl (hb hby at_39) ?_
    show Steps p.tables e below (T11.setTop (mkF m 41 #[.val (.int p1), .val (.int p2), .unset, .unset, .unset, .unset, .unset] [(.int (8 : Int32)), (.ref b3), (.ref b3)])) _
    refine XS.iconst X11.here hx rfl (hb hby at_41) ?_
    show Steps p.tables e below (T11.setTop (mkF m 42 #[.val (.int p1), .val (.int p2), .unset, .unset, .unset, .unset, .unset] [(.int (2 : Int32)), (.int (8 : Int32)), (.ref b3), (.ref b3)])) _
    refine st12 _ ?_
    show Steps p.tables e below (T12.setTop (mkF m 43 #[.val (.int p1), .val (.int p2), .unset, .unset, .unset, .unset, .unset] [(.ref b3)])) _
    refine XS.dup X12.here hx rfl (hb hby at_43) rfl rfl ?_
    show Steps p.tables e below (T12.setTop (mkF m 44 #[.val (.int p1), .val (.int p2), .unset, .unset, .unset, .unset, .unset] [(.ref b3), (.ref b3)])) _
    refine XS.bipush X12.here hx rfl (hb hby at_44) ?_
    show Steps p.tables e below (T12.setTop (mkF m 46 #[.val (.int p1), .val (.int p2), .unset, .unset, .unset, .unset, .unset] [(.int (9 : Int32)), (.ref b3), (.ref b3)])) _
    refine XS.iconst X12.here hx rfl (hb hby at_46) ?_
    show Steps p.tables e below (T12.setTop (mkF m 47 #[.val (.int p1), .val (.int p2), .unset, .unset, .unset, .unset, .unset] [(.int (0 : Int32)), (.int (9 : Int32)), (.ref b3), (.ref b3)])) _
    refine st13 _ ?_
    show Steps p.tables e below (T13.setTop (mkF m 48 #[.val (.int p1), .val (.int p2), .unset, .unset, .unset, .unset, .unset] [(.ref b3)])) _
    refine XS.dup X13.here hx rfl (hb hby at_48) rfl rfl ?_
    show Steps p.tables e below (T13.setTop (mkF m 49 #[.val (.int p1), .val (.int p2), .unset, .unset, .unset, .unset, .unset] [(.ref b3), (.ref b3)])) _
    refine XS.bipush X13.here hx rfl (hb hby at_49) ?_
    show Steps p.tables e below (T13.setTop (mkF m 51 #[.val (.int p1), .val (.int p2), .unset, .unset, .unset, .unset, .unset] [(.int (10 : Int32)), (.ref b3), (.ref b3)])) _
    refine XS.iconst X13.here hx rfl (hb hby at_51) ?_
    show Steps p.tables e below (T13.setTop (mkF m 52 #[.val (.int p1), .val (.int p2), .unset, .unset, .unset, .unset, .unset] [(.int (2 : Int32)), (.int (10 : Int32)), (.ref b3), (.ref b3)])) _
    refine st14 _ ?_
    show Steps p.tables e below (T14.setTop (mkF m 53 #[.val (.int p1), .val (.int p2), .unset, .unset, .unset, .unset, .unset] [(.ref b3)])) _
    refine XS.dup X14.here hx rfl (hb hby at_53) rfl rfl ?_
    show Steps p.tables e below (T14.setTop (mkF m 54 #[.val (.int p1), .val (.int p2), .unset, .unset, .unset, .unset, .unset] [(.ref b3), (.ref b3)])) _
    refine XS.bipush X14.here hx rfl (hb hby at_54) ?_
    show Steps p.tables e below (T14.setTop (mkF m 56 #[.val (.int p1), .val (.int p2), .unset, .unset, .unset, .unset, .unset] [(.int (11 : Int32)), (.ref b3), (.ref b3)])) _
    refine XS.iconst X14.here hx rfl (hb hby at_56) ?_
    show Steps p.tables e below (T14.setTop (mkF m 57 #[.val (.int p1), .val (.int p2), .unset, .unset, .unset, .unset, .unset] [(.int (0 : Int32)), (.int (11 : Int32)), (.ref b3), (.ref b3)])) _
    refine st15 _ ?_
    show Steps p.tables e below (T15.setTop (mkF m 58 #[.val (.int p1), .val (.int p2), .unset, .unset, .unset, .unset, .unset] [(.ref b3)])) _
    refine XS.dup X15.here hx rfl (hb hby at_58) rfl rfl ?_
    show Steps p.tables e below (T15.setTop (mkF m 59 #[.val (.int p1), .val (.int p2), .unset, .unset, .unset, .unset, .unset] [(.ref b3), (.ref b3)])) _
    refine XS.bipush X15.here hx rfl (hb hby at_59) ?_
    show Steps p.tables e below (T15.setTop (mkF m 61 #[.val (.int p1), .val (.int p2), .unset, .unset, .unset, .unset, .unset] [(.int (12 : Int32)), (.ref b3), (.ref b3)])) _
    refine XS.iconst X15.here hx rfl (hb hby at_61) ?_
    show Steps p.tables e below (T15.setTop (mkF m 62 #[.val (.int p1), .val (.int p2), .unset, .unset, .unset, .unset, .unset] [(.int (0 : Int32)), (.int (12 : Int32)), (.ref b3), (.ref b3)])) _
    refine st16 _ ?_
    show Steps p.tables e below (T16.setTop (mkF m 63 #[.val (.int p1), .val (.int p2), .unset, .unset, .unset, .unset, .unset] [(.ref b3)])) _
    refine XS.dup X16.here hx rfl (hb hby at_63) rfl rfl ?_
    show Steps p.tables e below (T16.setTop (mkF m 64 #[.val (.int p1), .val (.int p2), .unset, .unset, .unset, .unset, .unset] [(.ref b3), (.ref b3)])) _
    refine XS.bipush X16.here hx rfl (hb hby at_64) ?_
    show Steps p.tables e below (T16.setTop (mkF m 66 #[.val (.int p1), .val (.int p2), .unset, .unset, .unset, .unset, .unset] [(.int (13 : Int32)), (.ref b3), (.ref b3)])) _
    refine XS.iconst X16.here hx rfl (hb hby at_66) ?_
    show Steps p.tables e below (T16.setTop (mkF m 67 #[.val (.int p1), .val (.int p2), .unset, .unset, .unset, .unset, .unset] [(.int (0 : Int32)), (.int (13 : Int32)), (.ref b3), (.ref b3)])) _
    refine st17 _ ?_
    show Steps p.tables e below (T17.setTop (mkF m 68 #[.val (.int p1), .val (.int p2), .unset, .unset, .unset, .unset, .unset] [(.ref b3)])) _
    refine XS.dup X17.here hx rfl (hb hby at_68) rfl rfl ?_
    show Steps p.tables e below (T17.setTop (mkF m 69 #[.val (.int p1), .val (.int p2), .unset, .unset, .unset, .unset, .unset] [(.ref b3), (.ref b3)])) _
    refine XS.bipush X17.here hx rfl (hb hby at_69) ?_
    show Steps p.tables e below (T17.setTop (mkF m 71 #[.val (.int p1), .val (.int p2), .unset, .unset, .unset, .unset, .unset] [(.int (14 : Int32)), (.ref b3), (.ref b3)])) _
    refine XS.iconst X17.here hx rfl (hb hby at_71) ?_
    show Steps p.tables e below (T17.setTop (mkF m 72 #[.val (.int p1), .val (.int p2), .unset, .unset, .unset, .unset, .unset] [(.int (0 : Int32)), (.int (14 : Int32)), (.ref b3), (.ref b3)])) _
    refine st18 _ ?_
    show Steps p.tables e below (T18.setTop (mkF m 73 #[.val (.int p1), .val (.int p2), .unset, .unset, .unset, .unset, .unset] [(.ref b3)])) _
    refine XS.dup X18.here hx rfl (hb hby at_73) rfl rfl ?_
    show Steps p.tables e below (T18.setTop (mkF m 74 #[.val (.int p1), .val (.int p2), .unset, .unset, .unset, .unset, .unset] [(.ref b3), (.ref b3)])) _
    refine XS.bipush X18.here hx rfl (hb hby at_74) ?_
    show Steps p.tables e below (T18.setTop (mkF m 76 #[.val (.int p1), .val (.int p2), .unset, .unset, .unset, .unset, .unset] [(.int (15 : Int32)), (.ref b3), (.ref b3)])) _
    refine XS.iconst X18.here hx rfl (hb hby at_76) ?_
    show Steps p.tables e below (T18.setTop (mkF m 77 #[.val (.int p1), .val (.int p2), .unset, .unset, .unset, .unset, .unset] [(.int (0 : Int32)), (.int (15 : Int32)), (.ref b3), (.ref b3)])) _
    refine st19 _ ?_
    show Steps p.tables e below (T19.setTop (mkF m 78 #[.val (.int p1), .val (.int p2), .unset, .unset, .unset, .unset, .unset] [(.ref b3)])) _
    refine XS.astoreN X19.here hx rfl (hb hby at_78) rfl rfl (l' := #[.val (.int p1), .val (.int p2), .val (.ref b3), .unset, .unset, .unset, .unset]) rfl ?_
    show Steps p.tables e below (T19.setTop (mkF m 79 #[.val (.int p1), .val (.int p2), .val (.ref b3), .unset, .unset, .unset, .unset] [])) _
    refine XS.iloadN X19.here hx rfl (hb hby at_79) rfl ?_
    show Steps p.tables e below (T19.setTop (mkF m 80 #[.val (.int p1), .val (.int p2), .val (.ref b3), .unset, .unset, .unset, .unset] [(.int p1)])) _
    refine XS.bipush X19.here hx rfl (hb hby at_80) ?_
    show Steps p.tables e below (T19.setTop (mkF m 82 #[.val (.int p1), .val (.int p2), .val (.ref b3), .unset, .unset, .unset, .unset] [(.int (15 : Int32)), (.int p1)])) _
    refine XS.iand X19.here hx rfl (hb hby at_82) rfl ?_
    show Steps p.tables e below (T19.setTop (mkF m 83 #[.val (.int p1), .val (.int p2), .val (.ref b3), .unset, .unset, .unset, .unset] [(.int (p1 &&& (15 : Int32)))])) _
    refine XS.istoreN X19.here hx rfl (hb hby at_83) rfl (l' := #[.val (.int p1), .val (.int p2), .val (.ref b3), .val (.int (p1 &&& (15 : Int32))), .unset, .unset, .unset]) rfl ?_
    show Steps p.tables e below (T19.setTop (mkF m 84 #[.val (.int p1), .val (.int p2), .val (.ref b3), .val (.int (p1 &&& (15 : Int32))), .unset, .unset, .unset] [])) _
    refine XS.iloadN X19.here hx rfl (hb hby at_84) rfl ?_
    show Steps p.tables e below (T19.setTop (mkF m 85 #[.val (.int p1), .val (.int p2), .val (.ref b3), .val (.int (p1 &&& (15 : Int32))), .unset, .unset, .unset] [(.int (p1 &&& (15 : Int32)))])) _
    refine st20 _ ?_
    show Steps p.tables e below (T20.setTop (mkF m 88 #[.val (.int p1), .val (.int p2), .val (.ref b3), .val (.int (p1 &&& (15 : Int32))), .unset, .unset, .unset] [(.int (own_ff (p1 &&& (15 : Int32))))])) _
    refine XS.aloadN X20.here hx rfl (hb hby at_88) rfl rfl ?_
    show Steps p.tables e below (T20.setTop (mkF m 89 #[.val (.int p1), .val (.int p2), .val (.ref b3), .val (.int (p1 &&& (15 : Int32))), .unset, .unset, .unset] [(.ref b3), (.int (own_ff (p1 &&& (15 : Int32))))])) _
    refine XS.iloadN X20.here hx rfl (hb hby at_89) rfl ?_
    show Steps p.tables e below (T20.setTop (mkF m 90 #[.val (.int p1), .val (.int p2), .val (.ref b3), .val (.int (p1 &&& (15 : Int32))), .unset, .unset, .unset] [(.int (p1 &&& (15 : Int32))), (.ref b3), (.int (own_ff (p1 &&& (15 : Int32))))])) _
    refine X20.iaload hx (j := (p1 &&& (15 : Int32))) (v := (.int (own_ff (p1 &&& (15 : Int32))))) (by exact Ar90_.1) (State.isArrayOf_alike hZ.alike Ar90_.2.1) Ar90_.2.2 hin90 hat90 (g := (mkF m 90 #[.val (.int p1), .val (.int p2), .val (.ref b3), .val (.int (p1 &&& (15 : Int32))), .unset, .unset, .unset] [(.int (p1 &&& (15 : Int32))), (.ref b3), (.int (own_ff (p1 &&& (15 : Int32))))])) rfl rfl (hb hby at_90) _ ?_
    show Steps p.tables e below (T20.setTop (mkF m 91 #[.val (.int p1), .val (.int p2), .val (.ref b3), .val (.int (p1 &&& (15 : Int32))), .unset, .unset, .unset] [(.int (own_ff (p1 &&& (15 : Int32)))), (.int (own_ff (p1 &&& (15 : Int32))))])) _
    refine XS.icmpNo X20.here hx rfl (hb hby at_91) rfl (teq hc91).2 ?_
    show Steps p.tables e below (T20.setTop (mkF m 94 #[.val (.int p1), .val (.int p2), .val (.ref b3), .val (.int (p1 &&& (15 : Int32))), .unset, .unset, .unset] [])) _
    refine XS.iconst X20.here hx rfl (hb hby at_94) ?_
    show Steps p.tables e below (T20.setTop (mkF m 95 #[.val (.int p1), .val (.int p2), .val (.ref b3), .val (.int (p1 &&& (15 : Int32))), .unset, .unset, .unset] [(.int (1 : Int32))])) _
    refine XS.goto X20.here hx rfl (pc0 := 95) (pc' := 99) rfl (hb hby at_95) (by decide) (by decide) ?_
    show Steps p.tables e below (T20.setTop (mkF m 99 #[.val (.int p1), .val (.int p2), .val (.ref b3), .val (.int (p1 &&& (15 : Int32))), .unset, .unset, .unset] [(.int (1 : Int32))])) _
    refine XS.istore X20.here hx rfl (hb hby at_99) rfl (l' := #[.val (.int p1), .val (.int p2), .val (.ref b3), .val (.int (p1 &&& (15 : Int32))), .val (.int (1 : Int32)), .unset, .unset]) rfl ?_
    show Steps p.tables e below (T20.setTop (mkF m 101 #[.val (.int p1), .val (.int p2), .val (.ref b3), .val (.int (p1 &&& (15 : Int32))), .val (.int (1 : Int32)), .unset, .unset] [])) _
    refine XS.iloadN X20.here hx rfl (hb hby at_101) rfl ?_
    show Steps p.tables e below (T20.setTop (mkF m 102 #[.val (.int p1), .val (.int p2), .val (.ref b3), .val (.int (p1 &&& (15 : Int32))), .val (.int (1 : Int32)), .unset, .unset] [(.int p2)])) _
    refine XS.ifYes X20.here hx rfl (pc0 := 102) (pc' := 117) rfl (hb hby at_102) rfl ((if0 _ _).trans (tlt hc102).1) (by decide) (by decide) ?_
    show Steps p.tables e below (T20.setTop (mkF m 117 #[.val (.int p1), .val (.int p2), .val (.ref b3), .val (.int (p1 &&& (15 : Int32))), .val (.int (1 : Int32)), .unset, .unset] [])) _
    refine XS.iconst X20.here hx rfl (hb hby at_117) ?_
    show Steps p.tables e below (T20.setTop (mkF m 118 #[.val (.int p1), .val (.int p2), .val (.ref b3), .val (.int (p1 &&& (15 : Int32))), .val (.int (1 : Int32)), .unset, .unset] [(.int (0 : Int32))])) _
    refine XS.istore X20.here hx rfl (hb hby at_118) rfl (l' := #[.val (.int p1), .val (.int p2), .val (.ref b3), .val (.int (p1 &&& (15 : Int32))), .val (.int (1 : Int32)), .val (.int (0 : Int32)), .unset]) rfl ?_
    show Steps p.tables e below (T20.setTop (mkF m 120 #[.val (.int p1), .val (.int p2), .val (.ref b3), .val (.int (p1 &&& (15 : Int32))), .val (.int (1 : Int32)), .val (.int (0 : Int32)), .unset] [])) _
    refine XS.iloadN X20.here hx rfl (hb hby at_120) rfl ?_
    show Steps p.tables e below (T20.setTop (mkF m 121 #[.val (.int p1), .val (.int p2), .val (.ref b3), .val (.int (p1 &&& (15 : Int32))), .val (.int (1 : Int32)), .val (.int (0 : Int32)), .unset] [(.int p2)])) _
    refine st21 _ ?_
    show Steps p.tables e below (T21.setTop (mkF m 124 #[.val (.int p1), .val (.int p2), .val (.ref b3), .val (.int (p1 &&& (15 : Int32))), .val (.int (1 : Int32)), .val (.int (0 : Int32)), .unset] [(.int (own_ff p2))])) _
    refine XS.iload X21.here hx rfl (hb hby at_124) rfl ?_
    show Steps p.tables e below (T21.setTop (mkF m 126 #[.val (.int p1), .val (.int p2), .val (.ref b3), .val (.int (p1 &&& (15 : Int32))), .val (.int (1 : Int32)), .val (.int (0 : Int32)), .unset] [(.int (0 : Int32)), (.int (own_ff p2))])) _
    refine XS.icmpNo X21.here hx rfl (hb hby at_126) rfl (teq hc126).2 ?_
    show Steps p.tables e below (T21.setTop (mkF m 129 #[.val (.int p1), .val (.int p2), .val (.ref b3), .val (.int (p1 &&& (15 : Int32))), .val (.int (1 : Int32)), .val (.int (0 : Int32)), .unset] [])) _
    refine XS.iconst X21.here hx rfl (hb hby at_129) ?_
    show Steps p.tables e below (T21.setTop (mkF m 130 #[.val (.int p1), .val (.int p2), .val (.ref b3), .val (.int (p1 &&& (15 : Int32))), .val (.int (1 : Int32)), .val (.int (0 : Int32)), .unset] [(.int (1 : Int32))])) _
    refine XS.goto X21.here hx rfl (pc0 := 130) (pc' := 134) rfl (hb hby at_130) (by decide) (by decide) ?_
    show Steps p.tables e below (T21.setTop (mkF m 134 #[.val (.int p1), .val (.int p2), .val (.ref b3), .val (.int (p1 &&& (15 : Int32))), .val (.int (1 : Int32)), .val (.int (0 : Int32)), .unset] [(.int (1 : Int32))])) _
    refine XS.istore X21.here hx rfl (hb hby at_134) rfl (l' := #[.val (.int p1), .val (.int p2), .val (.ref b3), .val (.int (p1 &&& (15 : Int32))), .val (.int (1 : Int32)), .val (.int (0 : Int32)), .val (.int (1 : Int32))]) rfl ?_
    show Steps p.tables e below (T21.setTop (mkF m 136 #[.val (.int p1), .val (.int p2), .val (.ref b3), .val (.int (p1 &&& (15 : Int32))), .val (.int (1 : Int32)), .val (.int (0 : Int32)), .val (.int (1 : Int32))] [])) _
    refine XS.iload X21.here hx rfl (hb hby at_136) rfl ?_
    show Steps p.tables e below (T21.setTop (mkF m 138 #[.val (.int p1), .val (.int p2), .val (.ref b3), .val (.int (p1 &&& (15 : Int32))), .val (.int (1 : Int32)), .val (.int (0 : Int32)), .val (.int (1 : Int32))] [(.int (1 : Int32))])) _
    refine XS.ifNo X21.here hx rfl (hb hby at_138) rfl ((if0 _ _).trans (feq hc138).1) ?_
    show Steps p.tables e below (T21.setTop (mkF m 141 #[.val (.int p1), .val (.int p2), .val (.ref b3), .val (.int (p1 &&& (15 : Int32))), .val (.int (1 : Int32)), .val (.int (0 : Int32)), .val (.int (1 : Int32))] [])) _
    refine XS.iload X21.here hx rfl (hb hby at_141) rfl ?_
    show Steps p.tables e below (T21.setTop (mkF m 143 #[.val (.int p1), .val (.int p2), .val (.ref b3), .val (.int (p1 &&& (15 : Int32))), .val (.int (1 : Int32)), .val (.int (0 : Int32)), .val (.int (1 : Int32))] [(.int (1 : Int32))])) _
    refine XS.ifNo X21.here hx rfl (hb hby at_143) rfl ((if0 _ _).trans (feq hc143).1) ?_
    show Steps p.tables e below (T21.setTop (mkF m 146 #[.val (.int p1), .val (.int p2), .val (.ref b3), .val (.int (p1 &&& (15 : Int32))), .val (.int (1 : Int32)), .val (.int (0 : Int32)), .val (.int (1 : Int32))] [])) _
    refine XS.iconst X21.here hx rfl (hb hby at_146) ?_
    show Steps p.tables e below (T21.setTop (mkF m 147 #[.val (.int p1), .val (.int p2), .val (.ref b3), .val (.int (p1 &&& (15 : Int32))), .val (.int (1 : Int32)), .val (.int (0 : Int32)), .val (.int (1 : Int32))] [(.int (1 : Int32))])) _
    refine XS.goto X21.here hx rfl (pc0 := 147) (pc' := 151) rfl (hb hby at_147) (by decide) (by decide) ?_
    show Steps p.tables e below (T21.setTop (mkF m 151 #[.val (.int p1), .val (.int p2), .val (.ref b3), .val (.int (p1 &&& (15 : Int32))), .val (.int (1 : Int32)), .val (.int (0 : Int32)), .val (.int (1 : Int32))] [(.int (1 : Int32))])) _
    exact retN X21 hx (t := .boolean) Bd.returns (by simp) (hb hby at_151) hr
  · show Q0 Z p1 p2 h0 n0 _ T21.heap _
    exact ⟨rfl, N21⟩
set_option maxRecDepth 65536 in
set_option maxHeartbeats 40000000 in
theorem rm0_fftfff (l : Launch) (Z : State) (a0 : Array Value) (hw : ∀ d ∈ tables_1, d.before a0 Z = true) (ws : List Jvm.Cond) (p1 : Int32) (p2 : Int32) (h0 : Heap) (n0 : Nat) (Z0 : n0 ≤ h0.size) (hc102 : ¬ (p2 < (0 : Int32))) (hc108 : ¬ (p2 < (16 : Int32))) (hc138 : ¬ ((1 : Int32) = (0 : Int32))) (hc143 : ¬ ((1 : Int32) = (0 : Int32))) (hc91 : (own_ff (p1 &&& (15 : Int32))) = (own_ff (p1 &&& (15 : Int32)))) (hc126 : (own_ff p2) = (0 : Int32)) :
    MetFree l x (head1 (Jvm.Cond.code x code maxLocals ret :: ws) room_1) (fun a U => a = #[(.int p1), (.int p2)] ∧ Z.Warmed39 U.vm ∧ U.heap = h0) (fun _ _ _ _ _ => True) (fun _ U o U' => ∃ v L, o = .returned v ∧ Q0 Z p1 p2 h0 n0 v U'.heap L ∧ FrameEnd U o U' L room_1.cells room_1.slots) := by
  refine MetFree.of_bodySF (plainFor_of_name pn_0) hisR ?_
  intro p e s m args below meth c s₁ Bd hml0 hP hK
  obtain ⟨rfl, hZ, hh⟩ := hP
  have hx := Bd.exec
  have hby := Bd.bytes
  have hml : c.maxLocals = 7 := hml0
  have hown : s.vm.findClass "com/example/ratatoskr/ratatoskr/mqtt/PacketsFixedFlagsPinLaw" = some m.cls := findClass_of_methodNamed Bd.named
  have hnm := (name_of_methodNamed Bd.named Bd.method).1
  have X0 : Stand p l e room_1 s m #[(.int p1), (.int p2)] below meth c s₁ [] 0 0 := Stand.of_body Bd
  have e0 : s₁.heap = h0 := by rw [← hh, Bd.state]; rfl
  have N0 := Fr.nil n0
  have pre0 : ∀ t, Steps p.tables e below (s₁.setTop (mkF m 0 #[.val (.int p1), .val (.int p2), .unset, .unset, .unset, .unset, .unset] [])) t → Steps p.tables e below (s₁.setTop (entryFrame m #[(.int p1), (.int p2)] maxLocals)) t := fun t k => castTop (ef_0 m p1 p2) k
  obtain ⟨T3, h3, k3, X3, e3, E3, A3, st3⟩ := newP X0 hx hZ (hw _ (List.mem_of_getElem? (i := 0) rfl)) e0 (g := (mkF m 2 #[.val (.int p1), .val (.int p2), .unset, .unset, .unset, .unset, .unset] [(.int (16 : Int32))])) rfl (hb hby at_2) rfl (by decide) (cap := 16) (by decide) (by decide) (by decide) (by decide)
  obtain ⟨b3, g3⟩ : ∃ z, z = h0.size := ⟨_, rfl⟩
  rw [← g3] at A3 st3
  have V_b3 : Arv Z h3 b3 k3 .int (16 : Int32) [(.int (0 : Int32)), (.int (0 : Int32)), (.int (0 : Int32)), (.int (0 : Int32)), (.int (0 : Int32)), (.int (0 : Int32)), (.int (0 : Int32)), (.int (0 : Int32)), (.int (0 : Int32)), (.int (0 : Int32)), (.int (0 : Int32)), (.int (0 : Int32)), (.int (0 : Int32)), (.int (0 : Int32)), (.int (0 : Int32)), (.int (0 : Int32))] (.int (0 : Int32)) := (Arv.new A3 (by decide)).pad (pad_rep [] (.int (0 : Int32)) 16)
  have g_b3 : n0 ≤ b3 := Nat.le_trans Z0 (Nat.le_of_eq g3.symm)
  have sz_b3 : h0.size ≤ b3 := (Nat.le_trans (Keep.refl h0 []).1 (Nat.le_of_eq g3.symm))
  have K3 : Keep h0 h3 [] := (Keep.refl h0 []).ext E3
  obtain ⟨cl_b3_7, Ar_b3, q_b3, S_b3, N_b3, H_b3, G_b3⟩ := V_b3
  have hin7 : ¬ ((0 : Int32) < 0 ∨ cl_b3_7.slots.size ≤ ((0 : Int32)).toNatClampNeg) := inb_of S_b3 ⟨by decide, by decide⟩
  obtain ⟨T4, h4, X4, e4, W4, st4⟩ := stI X3 hx hZ e3 Ar_b3 (j := (0 : Int32)) hin7 (g := (mkF m 7 #[.val (.int p1), .val (.int p2), .unset, .unset, .unset, .unset, .unset] [(.int (0 : Int32)), (.int (0 : Int32)), (.ref b3), (.ref b3)])) rfl rfl (hb hby at_7)
  have V_b3_4 := Arv.set Ar_b3 q_b3 S_b3 N_b3 H_b3 G_b3 rfl W4 0 rfl (Nat.le_of_ble_eq_true rfl)
  have K4 : Keep h0 h4 [] := K3.wr W4 (Or.inr sz_b3)
  have N4 := Fr.snoc X4 N0 g_b3
  obtain ⟨cl_b3_11, Ar_b3, q_b3, S_b3, N_b3, H_b3, G_b3⟩ := V_b3_4
  have hin11 : ¬ ((1 : Int32) < 0 ∨ cl_b3_11.slots.size ≤ ((1 : Int32)).toNatClampNeg) := inb_of S_b3 ⟨by decide, by decide⟩
  obtain ⟨T5, h5, X5, e5, W5, st5⟩ := stI X4 hx hZ e4 Ar_b3 (j := (1 : Int32)) hin11 (g := (mkF m 11 #[.val (.int p1), .val (.int p2), .unset, .unset, .unset, .unset, .unset] [(.int (0 : Int32)), (.int (1 : Int32)), (.ref b3), (.ref b3)])) rfl rfl (hb hby at_11)
  have V_b3_5 := Arv.set Ar_b3 q_b3 S_b3 N_b3 H_b3 G_b3 rfl W5 1 rfl (Nat.le_of_ble_eq_true rfl)
  have K5 : Keep h0 h5 [] := K4.wr W5 (Or.inr sz_b3)
  have N5 := Fr.snoc X5 N4 g_b3
  obtain ⟨cl_b3_15, Ar_b3, q_b3, S_b3, N_b3, H_b3, G_b3⟩ := V_b3_5
  have hin15 : ¬ ((2 : Int32) < 0 ∨ cl_b3_15.slots.size ≤ ((2 : Int32)).toNatClampNeg) := inb_of S_b3 ⟨by decide, by decide⟩
  obtain ⟨T6, h6, X6, e6, W6, st6⟩ := stI X5 hx hZ e5 Ar_b3 (j := (2 : Int32)) hin15 (g := (mkF m 15 #[.val (.int p1), .val (.int p2), .unset, .unset, .unset, .unset, .unset] [(.int (0 : Int32)), (.int (2 : Int32)), (.ref b3), (.ref b3)])) rfl rfl (hb hby at_15)
  have V_b3_6 := Arv.set Ar_b3 q_b3 S_b3 N_b3 H_b3 G_b3 rfl W6 2 rfl (Nat.le_of_ble_eq_true rfl)
  have K6 : Keep h0 h6 [] := K5.wr W6 (Or.inr sz_b3)
  have N6 := Fr.snoc X6 N5 g_b3
  obtain ⟨cl_b3_19, Ar_b3, q_b3, S_b3, N_b3, H_b3, G_b3⟩ := V_b3_6
  have hin19 : ¬ ((3 : Int32) < 0 ∨ cl_b3_19.slots.size ≤ ((3 : Int32)).toNatClampNeg) := inb_of S_b3 ⟨by decide, by decide⟩
  obtain ⟨T7, h7, X7, e7, W7, st7⟩ := stI X6 hx hZ e6 Ar_b3 (j := (3 : Int32)) hin19 (g := (mkF m 19 #[.val (.int p1), .val (.int p2), .unset, .unset, .unset, .unset, .unset] [(.int (0 : Int32)), (.int (3 : Int32)), (.ref b3), (.ref b3)])) rfl rfl (hb hby at_19)
  have V_b3_7 := Arv.set Ar_b3 q_b3 S_b3 N_b3 H_b3 G_b3 rfl W7 3 rfl (Nat.le_of_ble_eq_true rfl)
  have K7 : Keep h0 h7 [] := K6.wr W7 (Or.inr sz_b3)
  have N7 := Fr.snoc X7 N6 g_b3
  obtain ⟨cl_b3_23, Ar_b3, q_b3, S_b3, N_b3, H_b3, G_b3⟩ := V_b3_7
  have hin23 : ¬ ((4 : Int32) < 0 ∨ cl_b3_23.slots.size ≤ ((4 : Int32)).toNatClampNeg) := inb_of S_b3 ⟨by decide, by decide⟩
  obtain ⟨T8, h8, X8, e8, W8, st8⟩ := stI X7 hx hZ e7 Ar_b3 (j := (4 : Int32)) hin23 (g := (mkF m 23 #[.val (.int p1), .val (.int p2), .unset, .unset, .unset, .unset, .unset] [(.int (0 : Int32)), (.int (4 : Int32)), (.ref b3), (.ref b3)])) rfl rfl (hb hby at_23)
  have V_b3_8 := Arv.set Ar_b3 q_b3 S_b3 N_b3 H_b3 G_b3 rfl W8 4 rfl (Nat.le_of_ble_eq_true rfl)
  have K8 : Keep h0 h8 [] := K7.wr W8 (Or.inr sz_b3)
  have N8 := Fr.snoc X8 N7 g_b3
  obtain ⟨cl_b3_27, Ar_b3, q_b3, S_b3, N_b3, H_b3, G_b3⟩ := V_b3_8
  have hin27 : ¬ ((5 : Int32) < 0 ∨ cl_b3_27.slots.size ≤ ((5 : Int32)).toNatClampNeg) := inb_of S_b3 ⟨by decide, by decide⟩
  obtain ⟨T9, h9, X9, e9, W9, st9⟩ := stI X8 hx hZ e8 Ar_b3 (j := (5 : Int32)) hin27 (g := (mkF m 27 #[.val (.int p1), .val (.int p2), .unset, .unset, .unset, .unset, .unset] [(.int (0 : Int32)), (.int (5 : Int32)), (.ref b3), (.ref b3)])) rfl rfl (hb hby at_27)
  have V_b3_9 := Arv.set Ar_b3 q_b3 S_b3 N_b3 H_b3 G_b3 rfl W9 5 rfl (Nat.le_of_ble_eq_true rfl)
  have K9 : Keep h0 h9 [] := K8.wr W9 (Or.inr sz_b3)
  have N9 := Fr.snoc X9 N8 g_b3
  obtain ⟨cl_b3_32, Ar_b3, q_b3, S_b3, N_b3, H_b3, G_b3⟩ := V_b3_9
  have hin32 : ¬ ((6 : Int32) < 0 ∨ cl_b3_32.slots.size ≤ ((6 : Int32)).toNatClampNeg) := inb_of S_b3 ⟨by decide, by decide⟩
  obtain ⟨T10, h10, X10, e10, W10, st10⟩ := stI X9 hx hZ e9 Ar_b3 (j := (6 : Int32)) hin32 (g := (mkF m 32 #[.val (.int p1), .val (.int p2), .unset, .unset, .unset, .unset, .unset] [(.int (2 : Int32)), (.int (6 : Int32)), (.ref b3), (.ref b3)])) rfl rfl (hb hby at_32)
  have V_b3_10 := Arv.set Ar_b3 q_b3 S_b3 N_b3 H_b3 G_b3 rfl W10 6 rfl (Nat.le_of_ble_eq_true rfl)
  have K10 : Keep h0 h10 [] := K9.wr W10 (Or.inr sz_b3)
  have N10 := Fr.snoc X10 N9 g_b3
  obtain ⟨cl_b3_37, Ar_b3, q_b3, S_b3, N_b3, H_b3, G_b3⟩ := V_b3_10
  have hin37 : ¬ ((7 : Int32) < 0 ∨ cl_b3_37.slots.size ≤ ((7 : Int32)).toNatClampNeg) := inb_of S_b3 ⟨by decide, by decide⟩
  obtain ⟨T11, h11, X11, e11, W11, st11⟩ := stI X10 hx hZ e10 Ar_b3 (j := (7 : Int32)) hin37 (g := (mkF m 37 #[.val (.int p1), .val (.int p2), .unset, .unset, .unset, .unset, .unset] [(.int (0 : Int32)), (.int (7 : Int32)), (.ref b3), (.ref b3)])) rfl rfl (hb hby at_37)
  have V_b3_11 := Arv.set Ar_b3 q_b3 S_b3 N_b3 H_b3 G_b3 rfl W11 7 rfl (Nat.le_of_ble_eq_true rfl)
  have K11 : Keep h0 h11 [] := K10.wr W11 (Or.inr sz_b3)
  have N11 := Fr.snoc X11 N10 g_b3
  obtain ⟨cl_b3_42, Ar_b3, q_b3, S_b3, N_b3, H_b3, G_b3⟩ := V_b3_11
  have hin42 : ¬ ((8 : Int32) < 0 ∨ cl_b3_42.slots.size ≤ ((8 : Int32)).toNatClampNeg) := inb_of S_b3 ⟨by decide, by decide⟩
  obtain ⟨T12, h12, X12, e12, W12, st12⟩ := stI X11 hx hZ e11 Ar_b3 (j := (8 : Int32)) hin42 (g := (mkF m 42 #[.val (.int p1), .val (.int p2), .unset, .unset, .unset, .unset, .unset] [(.int (2 : Int32)), (.int (8 : Int32)), (.ref b3), (.ref b3)])) rfl rfl (hb hby at_42)
  have V_b3_12 := Arv.set Ar_b3 q_b3 S_b3 N_b3 H_b3 G_b3 rfl W12 8 rfl (Nat.le_of_ble_eq_true rfl)
  have K12 : Keep h0 h12 [] := K11.wr W12 (Or.inr sz_b3)
  have N12 := Fr.snoc X12 N11 g_b3
  obtain ⟨cl_b3_47, Ar_b3, q_b3, S_b3, N_b3, H_b3, G_b3⟩ := V_b3_12
  have hin47 : ¬ ((9 : Int32) < 0 ∨ cl_b3_47.slots.size ≤ ((9 : Int32)).toNatClampNeg) := inb_of S_b3 ⟨by decide, by decide⟩
  obtain ⟨T13, h13, X13, e13, W13, st13⟩ := stI X12 hx hZ e12 Ar_b3 (j := (9 : Int32)) hin47 (g := (mkF m 47 #[.val (.int p1), .val (.int p2), .unset, .unset, .unset, .unset, .unset] [(.int (0 : Int32)), (.int (9 : Int32)), (.ref b3), (.ref b3)])) rfl rfl (hb hby at_47)
  have V_b3_13 := Arv.set Ar_b3 q_b3 S_b3 N_b3 H_b3 G_b3 rfl W13 9 rfl (Nat.le_of_ble_eq_true rfl)
  have K13 : Keep h0 h13 [] := K12.wr W13 (Or.inr sz_b3)
  have N13 := Fr.snoc X13 N12 g_b3
  obtain ⟨cl_b3_52, Ar_b3, q_b3, S_b3, N_b3, H_b3, G_b3⟩ := V_b3_13
  have hin52 : ¬ ((10 : Int32) < 0 ∨ cl_b3_52.slots.size ≤ ((10 : Int32)).toNatClampNeg) := inb_of S_b3 ⟨by decide, by decide⟩
  obtain ⟨T14, h14, X14, e14, W14, st14⟩ := stI X13 hx hZ e13 Ar_b3 (j := (10 : Int32)) hin52 (g := (mkF m 52 #[.val (.int p1), .val (.int p2), .unset, .unset, .unset, .unset, .unset] [(.int (2 : Int32)), (.int (10 : Int32)), (.ref b3), (.ref b3)])) rfl rfl (hb hby at_52)
  have V_b3_14 := Arv.set Ar_b3 q_b3 S_b3 N_b3 H_b3 G_b3 rfl W14 10 rfl (Nat.le_of_ble_eq_true rfl)
  have K14 : Keep h0 h14 [] := K13.wr W14 (Or.inr sz_b3)
  have N14 := Fr.snoc X14 N13 g_b3
  obtain ⟨cl_b3_57, Ar_b3, q_b3, S_b3, N_b3, H_b3, G_b3⟩ := V_b3_14
  have hin57 : ¬ ((11 : Int32) < 0 ∨ cl_b3_57.slots.size ≤ ((11 : Int32)).toNatClampNeg) := inb_of S_b3 ⟨by decide, by decide⟩
  obtain ⟨T15, h15, X15, e15, W15, st15⟩ := stI X14 hx hZ e14 Ar_b3 (j := (11 : Int32)) hin57 (g := (mkF m 57 #[.val (.int p1), .val (.int p2), .unset, .unset, .unset, .unset, .unset] [(.int (0 : Int32)), (.int (11 : Int32)), (.ref b3), (.ref b3)])) rfl rfl (hb hby at_57)
  have V_b3_15 := Arv.set Ar_b3 q_b3 S_b3 N_b3 H_b3 G_b3 rfl W15 11 rfl (Nat.le_of_ble_eq_true rfl)
  have K15 : Keep h0 h15 [] := K14.wr W15 (Or.inr sz_b3)
  have N15 := Fr.snoc X15 N14 g_b3
  obtain ⟨cl_b3_62, Ar_b3, q_b3, S_b3, N_b3, H_b3, G_b3⟩ := V_b3_15
  have hin62 : ¬ ((12 : Int32) < 0 ∨ cl_b3_62.slots.size ≤ ((12 : Int32)).toNatClampNeg) := inb_of S_b3 ⟨by decide, by decide⟩
  obtain ⟨T16, h16, X16, e16, W16, st16⟩ := stI X15 hx hZ e15 Ar_b3 (j := (12 : Int32)) hin62 (g := (mkF m 62 #[.val (.int p1), .val (.int p2), .unset, .unset, .unset, .unset, .unset] [(.int (0 : Int32)), (.int (12 : Int32)), (.ref b3), (.ref b3)])) rfl rfl (hb hby at_62)
  have V_b3_16 := Arv.set Ar_b3 q_b3 S_b3 N_b3 H_b3 G_b3 rfl W16 12 rfl (Nat.le_of_ble_eq_true rfl)
  have K16 : Keep h0 h16 [] := K15.wr W16 (Or.inr sz_b3)
  have N16 := Fr.snoc X16 N15 g_b3
  obtain ⟨cl_b3_67, Ar_b3, q_b3, S_b3, N_b3, H_b3, G_b3⟩ := V_b3_16
  have hin67 : ¬ ((13 : Int32) < 0 ∨ cl_b3_67.slots.size ≤ ((13 : Int32)).toNatClampNeg) := inb_of S_b3 ⟨by decide, by decide⟩
  obtain ⟨T17, h17, X17, e17, W17, st17⟩ := stI X16 hx hZ e16 Ar_b3 (j := (13 : Int32)) hin67 (g := (mkF m 67 #[.val (.int p1), .val (.int p2), .unset, .unset, .unset, .unset, .unset] [(.int (0 : Int32)), (.int (13 : Int32)), (.ref b3), (.ref b3)])) rfl rfl (hb hby at_67)
  have V_b3_17 := Arv.set Ar_b3 q_b3 S_b3 N_b3 H_b3 G_b3 rfl W17 13 rfl (Nat.le_of_ble_eq_true rfl)
  have K17 : Keep h0 h17 [] := K16.wr W17 (Or.inr sz_b3)
  have N17 := Fr.snoc X17 N16 g_b3
  obtain ⟨cl_b3_72, Ar_b3, q_b3, S_b3, N_b3, H_b3, G_b3⟩ := V_b3_17
  have hin72 : ¬ ((14 : Int32) < 0 ∨ cl_b3_72.slots.size ≤ ((14 : Int32)).toNatClampNeg) := inb_of S_b3 ⟨by decide, by decide⟩
  obtain ⟨T18, h18, X18, e18, W18, st18⟩ := stI X17 hx hZ e17 Ar_b3 (j := (14 : Int32)) hin72 (g := (mkF m 72 #[.val (.int p1), .val (.int p2), .unset, .unset, .unset, .unset, .unset] [(.int (0 : Int32)), (.int (14 : Int32)), (.ref b3), (.ref b3)])) rfl rfl (hb hby at_72)
  have V_b3_18 := Arv.set Ar_b3 q_b3 S_b3 N_b3 H_b3 G_b3 rfl W18 14 rfl (Nat.le_of_ble_eq_true rfl)
  have K18 : Keep h0 h18 [] := K17.wr W18 (Or.inr sz_b3)
  have N18 := Fr.snoc X18 N17 g_b3
  obtain ⟨cl_b3_77, Ar_b3, q_b3, S_b3, N_b3, H_b3, G_b3⟩ := V_b3_18
  have hin77 : ¬ ((15 : Int32) < 0 ∨ cl_b3_77.slots.size ≤ ((15 : Int32)).toNatClampNeg) := inb_of S_b3 ⟨by decide, by decide⟩
  obtain ⟨T19, h19, X19, e19, W19, st19⟩ := stI X18 hx hZ e18 Ar_b3 (j := (15 : Int32)) hin77 (g := (mkF m 77 #[.val (.int p1), .val (.int p2), .unset, .unset, .unset, .unset, .unset] [(.int (0 : Int32)), (.int (15 : Int32)), (.ref b3), (.ref b3)])) rfl rfl (hb hby at_77)
  have V_b3_19 := Arv.set Ar_b3 q_b3 S_b3 N_b3 H_b3 G_b3 rfl W19 15 rfl (Nat.le_of_ble_eq_true rfl)
  have K19 : Keep h0 h19 [] := K18.wr W19 (Or.inr sz_b3)
  have N19 := Fr.snoc X19 N18 g_b3
  obtain ⟨_, _, ⟨T20, L20, k20, n20⟩, -, X20, ⟨Lc20, hQ20, l20, y20, z20⟩, st20⟩ := Jvm.LawKit.callS X19 hx (y := (⟨"com/example/ratatoskr/ratatoskr/mqtt/Packets", "fixedFlags", "(I)I"⟩ : MethodName)) hown (mvT hZ (hw _ (List.mem_of_getElem? (i := 1) rfl))) (mvT hZ (hw _ (List.mem_of_getElem? (i := 2) rfl))) (mvT hZ (hw _ (List.mem_of_getElem? (i := 3) rfl))) (mvT hZ (hw _ (List.mem_of_getElem? (i := 4) rfl))) (by decide) (backOf (W := 0) (rm1 l Z a0 hw [] (p1 &&& (15 : Int32)) h19 n0 (Nat.le_trans Z0 K19.1)) hZ (hw _ (List.mem_of_getElem? (i := 4) rfl)) (hw _ (List.mem_of_getElem? (i := 3) rfl)) (by decide) (by decide)) (g := (mkF m 85 #[.val (.int p1), .val (.int p2), .val (.ref b3), .val (.int (p1 &&& (15 : Int32))), .unset, .unset, .unset] [(.int (p1 &&& (15 : Int32)))])) rfl (by rw [hml]; rfl) (argsL := [(.int (p1 &&& (15 : Int32)))]) (rest := []) (lenOf pd_0_0 rfl) rfl (by show 2 * 0 + _ ≤ _; exact Nat.le_of_eq rfl) (hb hby at_85) (fun _ _ => ⟨rfl, e19, (Nat.le_of_ble_eq_true rfl), (Nat.le_of_ble_eq_true rfl)⟩)
  dsimp only [Pt.U, Pt.locs, Pt.cells, Pt.slots] at X20 l20 y20 z20 st20 hQ20
  subst l20 y20 z20
  obtain ⟨rfl, N20q, h20q⟩ := hQ20
  have Kq20 : Keep h19 T20.heap [] := by rw [h20q]; exact Keep.refl _ _
  have K20 : Keep h0 T20.heap [] := K19.trans Kq20 (fun _ q => nomatch q)
  have N20 := Fr.app N19 N20q
  have Vo90 := (show Arv Z T20.heap b3 k3 .int (16 : Int32) [(.int (0 : Int32)), (.int (0 : Int32)), (.int (0 : Int32)), (.int (0 : Int32)), (.int (0 : Int32)), (.int (0 : Int32)), (.int (2 : Int32)), (.int (0 : Int32)), (.int (2 : Int32)), (.int (0 : Int32)), (.int (2 : Int32)), (.int (0 : Int32)), (.int (0 : Int32)), (.int (0 : Int32)), (.int (0 : Int32)), (.int (0 : Int32))] (.int (0 : Int32)) from (V_b3_19.keep Kq20 List.not_mem_nil))
  obtain ⟨cl90_, Ar90_, q90_, S90_, N90_, H90_, G90_⟩ := Vo90
  have hin90 : ¬ ((p1 &&& (15 : Int32)) < 0 ∨ cl90_.slots.size ≤ ((p1 &&& (15 : Int32))).toNatClampNeg) := inb_of S90_ (own_low p1)
  have hat90 : cl90_.slots[((p1 &&& (15 : Int32))).toNatClampNeg]? = some (.int (own_ff (p1 &&& (15 : Int32)))) := by rw [H90_ _ (Nat.lt_of_not_le fun q => hin90 (Or.inr q))]; exact congrArg some (own_at _ (own_low p1).1 (own_low p1).2)
  obtain ⟨_, _, ⟨T21, L21, k21, n21⟩, -, X21, ⟨Lc21, hQ21, l21, y21, z21⟩, st21⟩ := Jvm.LawKit.callS X20 hx (y := (⟨"com/example/ratatoskr/ratatoskr/mqtt/Packets", "fixedFlags", "(I)I"⟩ : MethodName)) hown (mvT hZ (hw _ (List.mem_of_getElem? (i := 1) rfl))) (mvT hZ (hw _ (List.mem_of_getElem? (i := 2) rfl))) (mvT hZ (hw _ (List.mem_of_getElem? (i := 3) rfl))) (mvT hZ (hw _ (List.mem_of_getElem? (i := 4) rfl))) (by decide) (backOf (W := 0) (rm1 l Z a0 hw [] p2 T20.heap n0 (Nat.le_trans Z0 K20.1)) hZ (hw _ (List.mem_of_getElem? (i := 4) rfl)) (hw _ (List.mem_of_getElem? (i := 3) rfl)) (by decide) (by decide)) (g := (mkF m 121 #[.val (.int p1), .val (.int p2), .val (.ref b3), .val (.int (p1 &&& (15 : Int32))), .val (.int (1 : Int32)), .val (.int (0 : Int32)), .unset] [(.int p2)])) rfl (by rw [hml]; rfl) (argsL := [(.int p2)]) (rest := []) (lenOf pd_0_0 rfl) rfl (by show 2 * 0 + _ ≤ _; exact Nat.le_of_eq rfl) (hb hby at_121) (fun _ _ => ⟨rfl, rfl, (Nat.le_of_ble_eq_true rfl), (Nat.le_of_ble_eq_true rfl)⟩)
  dsimp only [Pt.U, Pt.locs, Pt.cells, Pt.slots] at X21 l21 y21 z21 st21 hQ21
  subst l21 y21 z21
  obtain ⟨rfl, N21q, h21q⟩ := hQ21
  have Kq21 : Keep T20.heap T21.heap [] := by rw [h21q]; exact Keep.refl _ _
  have K21 : Keep h0 T21.heap [] := K20.trans Kq21 (fun _ q => nomatch q)
  have N21 := Fr.app N20 N21q
  obtain ⟨fs, hr, hrun, hended, hW, hsame⟩ := X21.leave (v := some (.int (1 : Int32))) (fun h => by rw [Bd.returns] at h; cases h)
  refine ⟨_, _, pre0 _ ?_, hrun, hended, _, _, rfl, ?_, ⟨_, rfl⟩, hW, hsame.mono (by decide) (by decide)⟩
  · show Steps p.tables e below (s₁.setTop (mkF m 0 #[.val (.int p1), .val (.int p2), .unset, .unset, .unset, .unset, .unset] [])) _
    refine XS.bipush X0.here hx rfl (hb hby at_0) ?_
    show Steps p.tables e below (s₁.setTop (mkF m 2 #[.val (.int p1), .val (.int p2), .unset, .unset, .unset, .unset, .unset] [(.int (16 : Int32))])) _
    refine st3 _ ?_
    show Steps p.tables e below (T3.setTop (mkF m 4 #[.val (.int p1), .val (.int p2), .unset, .unset, .unset, .unset, .unset] [(.ref b3)])) _
    refine XS.dup X3.here hx rfl (hb hby at_4) rfl rfl ?_
    show Steps p.tables e below (T3.setTop (mkF m 5 #[.val (.int p1), .val (.int p2), .unset, .unset, .unset, .unset, .unset] [(.ref b3), (.ref b3)])) _
    refine XS.iconst X3.here hx rfl (hb hby at_5) ?_
    show Steps p.tables e below (T3.setTop (mkF m 6 #[.val (.int p1), .val (.int p2), .unset, .unset, .unset, .unset, .unset] [(.int (0 : Int32)), (.ref b3), (.ref b3)])) _
    refine XS.iconst X3.here hx rfl (hb hby at_6) ?_
    show Steps p.tables e below (T3.setTop (mkF m 7 #[.val (.int p1), .val (.int p2), .unset, .unset, .unset, .unset, .unset] [(.int (0 : Int32)), (.int (0 : Int32)), (.ref b3), (.ref b3)])) _
    refine st4 _ ?_
    show Steps p.tables e below (T4.setTop (mkF m 8 #[.val (.int p1), .val (.int p2), .unset, .unset, .unset, .unset, .unset] [(.ref b3)])) _
    refine XS.dup X4.here hx rfl (hb hby at_8) rfl rfl ?_
    show Steps p.tables e below (T4.setTop (mkF m 9 #[.val (.int p1), .val (.int p2), .unset, .unset, .unset, .unset, .unset] [(.ref b3), (.ref b3)])) _
    refine XS.iconst X4.here hx rfl (hb hby at_9) ?_
    show Steps p.tables e below (T4.setTop (mkF m 10 #[.val (.int p1), .val (.int p2), .unset, .unset, .unset, .unset, .unset] [(.int (1 : Int32)), (.ref b3), (.ref b3)])) _
    refine XS.iconst X4.here hx rfl (hb hby at_10) ?_
    show Steps p.tables e below (T4.setTop (mkF m 11 #[.val (.int p1), .val (.int p2), .unset, .unset, .unset, .unset, .unset] [(.int (0 : Int32)), (.int (1 : Int32)), (.ref b3), (.ref b3)])) _
    refine st5 _ ?_
    show Steps p.tables e below (T5.setTop (mkF m 12 #[.val (.int p1), .val (.int p2), .unset, .unset, .unset, .unset, .unset] [(.ref b3)])) _
    refine XS.dup X5.here hx rfl (hb hby at_12) rfl rfl ?_
    show Steps p.tables e below (T5.setTop (mkF m 13 #[.val (.int p1), .val (.int p2), .unset, .unset, .unset, .unset, .unset] [(.ref b3), (.ref b3)])) _
    refine XS.iconst X5.here hx rfl (hb hby at_13) ?_
    show Steps p.tables e below (T5.setTop (mkF m 14 #[.val (.int p1), .val (.int p2), .unset, .unset, .unset, .unset, .unset] [(.int (2 : Int32)), (.ref b3), (.ref b3)])) _
    refine XS.iconst X5.here hx rfl (hb hby at_14) ?_
    show Steps p.tables e below (T5.setTop (mkF m 15 #[.val (.int p1), .val (.int p2), .unset, .unset, .unset, .unset, .unset] [(.int (0 : Int32)), (.int (2 : Int32)), (.ref b3), (.ref b3)])) _
    refine st6 _ ?_
    show Steps p.tables e below (T6.setTop (mkF m 16 #[.val (.int p1), .val (.int p2), .unset, .unset, .unset, .unset, .unset] [(.ref b3)])) _
    refine XS.dup X6.here hx rfl (hb hby at_16) rfl rfl ?_
    show Steps p.tables e below (T6.setTop (mkF m 17 #[.val (.int p1), .val (.int p2), .unset, .unset, .unset, .unset, .unset] [(.ref b3), (.ref b3)])) _
    refine XS.iconst X6.here hx rfl (hb hby at_17) ?_
    show Steps p.tables e below (T6.setTop (mkF m 18 #[.val (.int p1), .val (.int p2), .unset, .unset, .unset, .unset, .unset] [(.int (3 : Int32)), (.ref b3), (.ref b3)])) _
    refine XS.iconst X6.here hx rfl (hb hby at_18) ?_
    show Steps p.tables e below (T6.setTop (mkF m 19 #[.val (.int p1), .val (.int p2), .unset, .unset, .unset, .unset, .unset] [(.int (0 : Int32)), (.int (3 : Int32)), (.ref b3), (.ref b3)])) _
    refine st7 _ ?_
    show Steps p.tables e below (T7.setTop (mkF m 20 #[.val (.int p1), .val (.int p2), .unset, .unset, .unset, .unset, .unset] [(.ref b3)])) _
    refine XS.dup X7.here hx rfl (hb hby at_20) rfl rfl ?_
    show Steps p.tables e below (T7.setTop (mkF m 21 #[.val (.int p1), .val (.int p2), .unset, .unset, .unset, .unset, .unset] [(.ref b3), (.ref b3)])) _
    refine XS.iconst X7.here hx rfl (hb hby at_21) ?_
    show Steps p.tables e below (T7.setTop (mkF m 22 #[.val (.int p1), .val (.int p2), .unset, .unset, .unset, .unset, .unset] [(.int (4 : Int32)), (.ref b3), (.ref b3)])) _
    refine XS.iconst X7.here hx rfl (hb hby at_22) ?_
    show Steps p.tables e below (T7.setTop (mkF m 23 #[.val (.int p1), .val (.int p2), .unset, .unset, .unset, .unset, .unset] [(.int (0 : Int32)), (.int (4 : Int32)), (.ref b3), (.ref b3)])) _
    refine st8 _ ?_
    show Steps p.tables e below (T8.setTop (mkF m 24 #[.val (.int p1), .val (.int p2), .unset, .unset, .unset, .unset, .unset] [(.ref b3)])) _
    refine XS.dup X8.here hx rfl (hb hby at_24) rfl rfl ?_
    show Steps p.tables e below (T8.setTop (mkF m 25 #[.val (.int p1), .val (.int p2), .unset, .unset, .unset, .unset, .unset] [(.ref b3), (.ref b3)])) _
    refine XS.iconst X8.here hx rfl (hb hby at_25) ?_
    show Steps p.tables e below (T8.setTop (mkF m 26 #[.val (.int p1), .val (.int p2), .unset, .unset, .unset, .unset, .unset] [(.int (5 : Int32)), (.ref b3), (.ref b3)])) _
    refine XS.iconst X8.here hx rfl (hb hby at_26) ?_
    show Steps p.tables e below (T8.setTop (mkF m 27 #[.val (.int p1), .val (.int p2), .unset, .unset, .unset, .unset, .unset] [(.int (0 : Int32)), (.int (5 : Int32)), (.ref b3), (.ref b3)])) _
    refine st9 _ ?_
    show Steps p.tables e below (T9.setTop (mkF m 28 #[.val (.int p1), .val (.int p2), .unset, .unset, .unset, .unset, .unset] [(.ref b3)])) _
    refine XS.dup X9.here hx rfl (hb hby at_28) rfl rfl ?_
    show Steps p.tables e below (T9.setTop (mkF m 29 #[.val (.int p1), .val (.int p2), .unset, .unset, .unset, .unset, .unset] [(.ref b3), (.ref b3)])) _
    refine XS.bipush X9.here hx rfl (hb hby at_29) ?_
    show Steps p.tables e below (T9.setTop (mkF m 31 #[.val (.int p1), .val (.int p2), .unset, .unset, .unset, .unset, .unset] [(.int (6 : Int32)), (.ref b3), (.ref b3)])) _
    refine XS.iconst X9.here hx rfl (hb hby at_31) ?_
    show Steps p.tables e below (T9.setTop (mkF m 32 #[.val (.int p1), .val (.int p2), .unset, .unset, .unset, .unset, .unset] [(.int (2 : Int32)), (.int (6 : Int32)), (.ref b3), (.ref b3)])) _
    refine st10 _ ?_
    show Steps p.tables e below (T10.setTop (mkF m 33 #[.val (.int p1), .val (.int p2), .unset, .unset, .unset, .unset, .unset] [(.ref b3)])) _
    refine XS.dup X10.here hx rfl (hb hby at_33) rfl rfl ?_
    show Steps p.tables e below (T10.setTop (mkF m 34 #[.val (.int p1), .val (.int p2), .unset, .unset, .unset, .unset, .unset] [(.ref b3), (.ref b3)])) _
    refine XS.bipush X10.here hx rfl (hb hby at_34) ?_
    show Steps p.tables e below (T10.setTop (mkF m 36 #[.val (.int p1), .val (.int p2), .unset, .unset, .unset, .unset, .unset] [(.int (7 : Int32)), (.ref b3), (.ref b3)])) _
    refine XS.iconst X10.here hx rfl (hb hby at_36) ?_
    show Steps p.tables e below (T10.setTop (mkF m 37 #[.val (.int p1), .val (.int p2), .unset, .unset, .unset, .unset, .unset] [(.int (0 : Int32)), (.int (7 : Int32)), (.ref b3), (.ref b3)])) _
    refine st11 _ ?_
    show Steps p.tables e below (T11.setTop (mkF m 38 #[.val (.int p1), .val (.int p2), .unset, .unset, .unset, .unset, .unset] [(.ref b3)])) _
    refine XS.dup X11.here hx rfl (hb hby at_38) rfl rfl ?_
    show Steps p.tables e below (T11.setTop (mkF m 39 #[.val (.int p1), .val (.int p2), .unset, .unset, .unset, .unset, .unset] [(.ref b3), (.ref b3)])) _
    refine XS.bipush X11.here hx rfl (hb hby at_39) ?_
    show Steps p.tables e below (T11.setTop (mkF m 41 #[.val (.int p1), .val (.int p2), .unset, .unset, .unset, .unset, .unset] [(.int (8 : Int32)), (.ref b3), (.ref b3)])) _
    refine XS.iconst X11.here hx rfl (hb hby at_41) ?_
    show Steps p.tables e below (T11.setTop (mkF m 42 #[.val (.int p1), .val (.int p2), .unset, .unset, .unset, .unset, .unset] [(.int (2 : Int32)), (.int (8 : Int32)), (.ref b3), (.ref b3)])) _
    refine st12 _ ?_
    show Steps p.tables e below (T12.setTop (mkF m 43 #[.val (.int p1), .val (.int p2), .unset, .unset, .unset, .unset, .unset] [(.ref b3)])) _
    refine XS.dup X12.here hx rfl (hb hby at_43) rfl rfl ?_
    show Steps p.tables e below (T12.setTop (mkF m 44 #[.val (.int p1), .val (.int p2), .unset, .unset, .unset, .unset, .unset] [(.ref b3), (.ref b3)])) _
    refine XS.bipush X12.here hx rfl (hb hby at_44) ?_
    show Steps p.tables e below (T12.setTop (mkF m 46 #[.val (.int p1), .val (.int p2), .unset, .unset, .unset, .unset, .unset] [(.int (9 : Int32)), (.ref b3), (.ref b3)])) _
    refine XS.iconst X12.here hx rfl (hb hby at_46) ?_
    show Steps p.tables e below (T12.setTop (mkF m 47 #[.val (.int p1), .val (.int p2), .unset, .unset, .unset, .unset, .unset] [(.int (0 : Int32)), (.int (9 : Int32)), (.ref b3), (.ref b3)])) _
    refine st13 _ ?_
    show Steps p.tables e below (T13.setTop (mkF m 48 #[.val (.int p1), .val (.int p2), .unset, .unset, .unset, .unset, .unset] [(.ref b3)])) _
    refine XS.dup X13.here hx rfl (hb hby at_48) rfl rfl ?_
    show Steps p.tables e below (T13.setTop (mkF m 49 #[.val (.int p1), .val (.int p2), .unset, .unset, .unset, .unset, .unset] [(.ref b3), (.ref b3)])) _
    refine XS.bipush X13.here hx rfl (hb hby at_49) ?_
    show Steps p.tables e below (T13.setTop (mkF m 51 #[.val (.int p1), .val (.int p2), .unset, .unset, .unset, .unset, .unset] [(.int (10 : Int32)), (.ref b3), (.ref b3)])) _
    refine XS.iconst X13.here hx rfl (hb hby at_51) ?_
    show Steps p.tables e below (T13.setTop (mkF m 52 #[.val (.int p1), .val (.int p2), .unset, .unset, .unset, .unset, .unset] [(.int (2 : Int32)), (.int (10 : Int32)), (.ref b3), (.ref b3)])) _
    refine st14 _ ?_
    show Steps p.tables e below (T14.setTop (mkF m 53 #[.val (.int p1), .val (.int p2), .unset, .unset, .unset, .unset, .unset] [(.ref b3)])) _
    refine XS.dup X14.here hx rfl (hb hby at_53) rfl rfl ?_
    show Steps p.tables e below (T14.setTop (mkF m 54 #[.val (.int p1), .val (.int p2), .unset, .unset, .unset, .unset, .unset] [(.ref b3), (.ref b3)])) _
    refine XS.bipush X14.here hx rfl (hb hby at_54) ?_
    show Steps p.tables e below (T14.setTop (mkF m 56 #[.val (.int p1), .val (.int p2), .unset, .unset, .unset, .unset, .unset] [(.int (11 : Int32)), (.ref b3), (.ref b3)])) _
    refine XS.iconst X14.here hx rfl (hb hby at_56) ?_
    show Steps p.tables e below (T14.setTop (mkF m 57 #[.val (.int p1), .val (.int p2), .unset, .unset, .unset, .unset, .unset] [(.int (0 : Int32)), (.int (11 : Int32)), (.ref b3), (.ref b3)])) _
    refine st15 _ ?_
    show Steps p.tables e below (T15.setTop (mkF m 58 #[.val (.int p1), .val (.int p2), .unset, .unset, .unset, .unset, .unset] [(.ref b3)])) _
    refine XS.dup X15.here hx rfl (hb hby at_58) rfl rfl ?_
    show Steps p.tables e below (T15.setTop (mkF m 59 #[.val (.int p1), .val (.int p2), .unset, .unset, .unset, .unset, .unset] [(.ref b3), (.ref b3)])) _
    refine XS.bipush X15.here hx rfl (hb hby at_59) ?_
    show Steps p.tables e below (T15.setTop (mkF m 61 #[.val (.int p1), .val (.int p2), .unset, .unset, .unset, .unset, .unset] [(.int (12 : Int32)), (.ref b3), (.ref b3)])) _
    refine XS.iconst X15.here hx rfl (hb hby at_61) ?_
    show Steps p.tables e below (T15.setTop (mkF m 62 #[.val (.int p1), .val (.int p2), .unset, .unset, .unset, .unset, .unset] [(.int (0 : Int32)), (.int (12 : Int32)), (.ref b3), (.ref b3)])) _
    refine st16 _ ?_
    show Steps p.tables e below (T16.setTop (mkF m 63 #[.val (.int p1), .val (.int p2), .unset, .unset, .unset, .unset, .unset] [(.ref b3)])) _
    refine XS.dup X16.here hx rfl (hb hby at_63) rfl rfl ?_
    show Steps p.tables e below (T16.setTop (mkF m 64 #[.val (.int p1), .val (.int p2), .unset, .unset, .unset, .unset, .unset] [(.ref b3), (.ref b3)])) _
    refine XS.bipush X16.here hx rfl (hb hby at_64) ?_
    show Steps p.tables e below (T16.setTop (mkF m 66 #[.val (.int p1), .val (.int p2), .unset, .unset, .unset, .unset, .unset] [(.int (13 : Int32)), (.ref b3), (.ref b3)])) _
    refine XS.iconst X16.here hx rfl (hb hby at_66) ?_
    show Steps p.tables e below (T16.setTop (mkF m 67 #[.val (.int p1), .val (.int p2), .unset, .unset, .unset, .unset, .unset] [(.int (0 : Int32)), (.int (13 : Int32)), (.ref b3), (.ref b3)])) _
    refine st17 _ ?_
    show Steps p.tables e below (T17.setTop (mkF m 68 #[.val (.int p1), .val (.int p2), .unset, .unset, .unset, .unset, .unset] [(.ref b3)])) _
    refine XS.dup X17.here hx rfl (hb hby at_68) rfl rfl ?_
    show Steps p.tables e below (T17.setTop (mkF m 69 #[.val (.int p1), .val (.int p2), .unset, .unset, .unset, .unset, .unset] [(.ref b3), (.ref b3)])) _
    refine XS.bipush X17.here hx rfl (hb hby at_69) ?_
    show Steps p.tables e below (T17.setTop (mkF m 71 #[.val (.int p1), .val (.int p2), .unset, .unset, .unset, .unset, .unset] [(.int (14 : Int32)), (.ref b3), (.ref b3)])) _
    refine XS.iconst X17.here hx rfl (hb hby at_71) ?_
    show Steps p.tables e below (T17.setTop (mkF m 72 #[.val (.int p1), .val (.int p2), .unset, .unset, .unset, .unset, .unset] [(.int (0 : Int32)), (.int (14 : Int32)), (.ref b3), (.ref b3)])) _
    refine st18 _ ?_
    show Steps p.tables e below (T18.setTop (mkF m 73 #[.val (.int p1), .val (.int p2), .unset, .unset, .unset, .unset, .unset] [(.ref b3)])) _
    refine XS.dup X18.here hx rfl (hb hby at_73) rfl rfl ?_
    show Steps p.tables e below (T18.setTop (mkF m 74 #[.val (.int p1), .val (.int p2), .unset, .unset, .unset, .unset, .unset] [(.ref b3), (.ref b3)])) _
    refine XS.bipush X18.here hx rfl (hb hby at_74) ?_
    show Steps p.tables e below (T18.setTop (mkF m 76 #[.val (.int p1), .val (.int p2), .unset, .unset, .unset, .unset, .unset] [(.int (15 : Int32)), (.ref b3), (.ref b3)])) _
    refine XS.iconst X18.here hx rfl (hb hby at_76) ?_
    show Steps p.tables e below (T18.setTop (mkF m 77 #[.val (.int p1), .val (.int p2), .unset, .unset, .unset, .unset, .unset] [(.int (0 : Int32)), (.int (15 : Int32)), (.ref b3), (.ref b3)])) _
    refine st19 _ ?_
    show Steps p.tables e below (T19.setTop (mkF m 78 #[.val (.int p1), .val (.int p2), .unset, .unset, .unset, .unset, .unset] [(.ref b3)])) _
    refine XS.astoreN X19.here hx rfl (hb hby at_78) rfl rfl (l' := #[.val (.int p1), .val (.int p2), .val (.ref b3), .unset, .unset, .unset, .unset]) rfl ?_
    show Steps p.tables e below (T19.setTop (mkF m 79 #[.val (.int p1), .val (.int p2), .val (.ref b3), .unset, .unset, .unset, .unset] [])) _
    refine XS.iloadN X19.here hx rfl (hb hby at_79) rfl ?_
    show Steps p.tables e below (T19.setTop (mkF m 80 #[.val (.int p1), .val (.int p2), .val (.ref b3), .unset, .unset, .unset, .unset] [(.int p1)])) _
    refine XS.bipush X19.here hx rfl (hb hby at_80) ?_
    show Steps p.tables e below (T19.setTop (mkF m 82 #[.val (.int p1), .val (.int p2), .val (.ref b3), .unset, .unset, .unset, .unset] [(.int (15 : Int32)), (.int p1)])) _
    refine XS.iand X19.here hx rfl (hb hby at_82) rfl ?_
    show Steps p.tables e below (T19.setTop (mkF m 83 #[.val (.int p1), .val (.int p2), .val (.ref b3), .unset, .unset, .unset, .unset] [(.int (p1 &&& (15 : Int32)))])) _
    refine XS.istoreN X19.here hx rfl (hb hby at_83) rfl (l' := #[.val (.int p1), .val (.int p2), .val (.ref b3), .val (.int (p1 &&& (15 : Int32))), .unset, .unset, .unset]) rfl ?_
    show Steps p.tables e below (T19.setTop (mkF m 84 #[.val (.int p1), .val (.int p2), .val (.ref b3), .val (.int (p1 &&& (15 : Int32))), .unset, .unset, .unset] [])) _
    refine XS.iloadN X19.here hx rfl (hb hby at_84) rfl ?_
    show Steps p.tables e below (T19.setTop (mkF m 85 #[.val (.int p1), .val (.int p2), .val (.ref b3), .val (.int (p1 &&& (15 : Int32))), .unset, .unset, .unset] [(.int (p1 &&& (15 : Int32)))])) _
    refine st20 _ ?_
    show Steps p.tables e below (T20.setTop (mkF m 88 #[.val (.int p1), .val (.int p2), .val (.ref b3), .val (.int (p1 &&& (15 : Int32))), .unset, .unset, .unset] [(.int (own_ff (p1 &&& (15 : Int32))))])) _
    refine XS.aloadN X20.here hx rfl (hb hby at_88) rfl rfl ?_
    show Steps p.tables e below (T20.setTop (mkF m 89 #[.val (.int p1), .val (.int p2), .val (.ref b3), .val (.int (p1 &&& (15 : Int32))), .unset, .unset, .unset] [(.ref b3), (.int (own_ff (p1 &&& (15 : Int32))))])) _
    refine XS.iloadN X20.here hx rfl (hb hby at_89) rfl ?_
    show Steps p.tables e below (T20.setTop (mkF m 90 #[.val (.int p1), .val (.int p2), .val (.ref b3), .val (.int (p1 &&& (15 : Int32))), .unset, .unset, .unset] [(.int (p1 &&& (15 : Int32))), (.ref b3), (.int (own_ff (p1 &&& (15 : Int32))))])) _
    refine X20.iaload hx (j := (p1 &&& (15 : Int32))) (v := (.int (own_ff (p1 &&& (15 : Int32))))) (by exact Ar90_.1) (State.isArrayOf_alike hZ.alike Ar90_.2.1) Ar90_.2.2 hin90 hat90 (g := (mkF m 90 #[.val (.int p1), .val (.int p2), .val (.ref b3), .val (.int (p1 &&& (15 : Int32))), .unset, .unset, .unset] [(.int (p1 &&& (15 : Int32))), (.ref b3), (.int (own_ff (p1 &&& (15 : Int32))))])) rfl rfl (hb hby at_90) _ ?_
    show Steps p.tables e below (T20.setTop (mkF m 91 #[.val (.int p1), .val (.int p2), .val (.ref b3), .val (.int (p1 &&& (15 : Int32))), .unset, .unset, .unset] [(.int (own_ff (p1 &&& (15 : Int32)))), (.int (own_ff (p1 &&& (15 : Int32))))])) _
    refine XS.icmpNo X20.here hx rfl (hb hby at_91) rfl (teq hc91).2 ?_
    show Steps p.tables e below (T20.setTop (mkF m 94 #[.val (.int p1), .val (.int p2), .val (.ref b3), .val (.int (p1 &&& (15 : Int32))), .unset, .unset, .unset] [])) _
    refine XS.iconst X20.here hx rfl (hb hby at_94) ?_
    show Steps p.tables e below (T20.setTop (mkF m 95 #[.val (.int p1), .val (.int p2), .val (.ref b3), .val (.int (p1 &&& (15 : Int32))), .unset, .unset, .unset] [(.int (1 : Int32))])) _
    refine XS.goto X20.here hx rfl (pc0 := 95) (pc' := 99) rfl (hb hby at_95) (by decide) (by decide) ?_
    show Steps p.tables e below (T20.setTop (mkF m 99 #[.val (.int p1), .val (.int p2), .val (.ref b3), .val (.int (p1 &&& (15 : Int32))), .unset, .unset, .unset] [(.int (1 : Int32))])) _
    refine XS.istore X20.here hx rfl (hb hby at_99) rfl (l' := #[.val (.int p1), .val (.int p2), .val (.ref b3), .val (.int (p1 &&& (15 : Int32))), .val (.int (1 : Int32)), .unset, .unset]) rfl ?_
    show Steps p.tables e below (T20.setTop (mkF m 101 #[.val (.int p1), .val (.int p2), .val (.ref b3), .val (.int (p1 &&& (15 : Int32))), .val (.int (1 : Int32)), .unset, .unset] [])) _
    refine XS.iloadN X20.here hx rfl (hb hby at_101) rfl ?_
    show Steps p.tables e below (T20.setTop (mkF m 102 #[.val (.int p1), .val (.int p2), .val (.ref b3), .val (.int (p1 &&& (15 : Int32))), .val (.int (1 : Int32)), .unset, .unset] [(.int p2)])) _
    refine XS.ifNo X20.here hx rfl (hb hby at_102) rfl ((if0 _ _).trans (flt hc102).1) ?_
    show Steps p.tables e below (T20.setTop (mkF m 105 #[.val (.int p1), .val (.int p2), .val (.ref b3), .val (.int (p1 &&& (15 : Int32))), .val (.int (1 : Int32)), .unset, .unset] [])) _
    refine XS.iloadN X20.here hx rfl (hb hby at_105) rfl ?_
    show Steps p.tables e below (T20.setTop (mkF m 106 #[.val (.int p1), .val (.int p2), .val (.ref b3), .val (.int (p1 &&& (15 : Int32))), .val (.int (1 : Int32)), .unset, .unset] [(.int p2)])) _
    refine XS.bipush X20.here hx rfl (hb hby at_106) ?_
    show Steps p.tables e below (T20.setTop (mkF m 108 #[.val (.int p1), .val (.int p2), .val (.ref b3), .val (.int (p1 &&& (15 : Int32))), .val (.int (1 : Int32)), .unset, .unset] [(.int (16 : Int32)), (.int p2)])) _
    refine XS.icmpYes X20.here hx rfl (pc0 := 108) (pc' := 117) rfl (hb hby at_108) rfl (flt hc108).2.1 (by decide) (by decide) ?_
    show Steps p.tables e below (T20.setTop (mkF m 117 #[.val (.int p1), .val (.int p2), .val (.ref b3), .val (.int (p1 &&& (15 : Int32))), .val (.int (1 : Int32)), .unset, .unset] [])) _
    refine XS.iconst X20.here hx rfl (hb hby at_117) ?_
    show Steps p.tables e below (T20.setTop (mkF m 118 #[.val (.int p1), .val (.int p2), .val (.ref b3), .val (.int (p1 &&& (15 : Int32))), .val (.int (1 : Int32)), .unset, .unset] [(.int (0 : Int32))])) _
    refine XS.istore X20.here hx rfl (hb hby at_118) rfl (l' := #[.val (.int p1), .val (.int p2), .val (.ref b3), .val (.int (p1 &&& (15 : Int32))), .val (.int (1 : Int32)), .val (.int (0 : Int32)), .unset]) rfl ?_
    show Steps p.tables e below (T20.setTop (mkF m 120 #[.val (.int p1), .val (.int p2), .val (.ref b3), .val (.int (p1 &&& (15 : Int32))), .val (.int (1 : Int32)), .val (.int (0 : Int32)), .unset] [])) _
    refine XS.iloadN X20.here hx rfl (hb hby at_120) rfl ?_
    show Steps p.tables e below (T20.setTop (mkF m 121 #[.val (.int p1), .val (.int p2), .val (.ref b3), .val (.int (p1 &&& (15 : Int32))), .val (.int (1 : Int32)), .val (.int (0 : Int32)), .unset] [(.int p2)])) _
    refine st21 _ ?_
    show Steps p.tables e below (T21.setTop (mkF m 124 #[.val (.int p1), .val (.int p2), .val (.ref b3), .val (.int (p1 &&& (15 : Int32))), .val (.int (1 : Int32)), .val (.int (0 : Int32)), .unset] [(.int (own_ff p2))])) _
    refine XS.iload X21.here hx rfl (hb hby at_124) rfl ?_
    show Steps p.tables e below (T21.setTop (mkF m 126 #[.val (.int p1), .val (.int p2), .val (.ref b3), .val (.int (p1 &&& (15 : Int32))), .val (.int (1 : Int32)), .val (.int (0 : Int32)), .unset] [(.int (0 : Int32)), (.int (own_ff p2))])) _
    refine XS.icmpNo X21.here hx rfl (hb hby at_126) rfl (teq hc126).2 ?_
    show Steps p.tables e below (T21.setTop (mkF m 129 #[.val (.int p1), .val (.int p2), .val (.ref b3), .val (.int (p1 &&& (15 : Int32))), .val (.int (1 : Int32)), .val (.int (0 : Int32)), .unset] [])) _
    refine XS.iconst X21.here hx rfl (hb hby at_129) ?_
    show Steps p.tables e below (T21.setTop (mkF m 130 #[.val (.int p1), .val (.int p2), .val (.ref b3), .val (.int (p1 &&& (15 : Int32))), .val (.int (1 : Int32)), .val (.int (0 : Int32)), .unset] [(.int (1 : Int32))])) _
    refine XS.goto X21.here hx rfl (pc0 := 130) (pc' := 134) rfl (hb hby at_130) (by decide) (by decide) ?_
    show Steps p.tables e below (T21.setTop (mkF m 134 #[.val (.int p1), .val (.int p2), .val (.ref b3), .val (.int (p1 &&& (15 : Int32))), .val (.int (1 : Int32)), .val (.int (0 : Int32)), .unset] [(.int (1 : Int32))])) _
    refine XS.istore X21.here hx rfl (hb hby at_134) rfl (l' := #[.val (.int p1), .val (.int p2), .val (.ref b3), .val (.int (p1 &&& (15 : Int32))), .val (.int (1 : Int32)), .val (.int (0 : Int32)), .val (.int (1 : Int32))]) rfl ?_
    show Steps p.tables e below (T21.setTop (mkF m 136 #[.val (.int p1), .val (.int p2), .val (.ref b3), .val (.int (p1 &&& (15 : Int32))), .val (.int (1 : Int32)), .val (.int (0 : Int32)), .val (.int (1 : Int32))] [])) _
    refine XS.iload X21.here hx rfl (hb hby at_136) rfl ?_
    show Steps p.tables e below (T21.setTop (mkF m 138 #[.val (.int p1), .val (.int p2), .val (.ref b3), .val (.int (p1 &&& (15 : Int32))), .val (.int (1 : Int32)), .val (.int (0 : Int32)), .val (.int (1 : Int32))] [(.int (1 : Int32))])) _
    refine XS.ifNo X21.here hx rfl (hb hby at_138) rfl ((if0 _ _).trans (feq hc138).1) ?_
    show Steps p.tables e below (T21.setTop (mkF m 141 #[.val (.int p1), .val (.int p2), .val (.ref b3), .val (.int (p1 &&& (15 : Int32))), .val (.int (1 : Int32)), .val (.int (0 : Int32)), .val (.int (1 : Int32))] [])) _
    refine XS.iload X21.here hx rfl (hb hby at_141) rfl ?_
    show Steps p.tables e below (T21.setTop (mkF m 143 #[.val (.int p1), .val (.int p2), .val (.ref b3), .val (.int (p1 &&& (15 : Int32))), .val (.int (1 : Int32)), .val (.int (0 : Int32)), .val (.int (1 : Int32))] [(.int (1 : Int32))])) _
    refine XS.ifNo X21.here hx rfl (hb hby at_143) rfl ((if0 _ _).trans (feq hc143).1) ?_
    show Steps p.tables e below (T21.setTop (mkF m 146 #[.val (.int p1), .val (.int p2), .val (.ref b3), .val (.int (p1 &&& (15 : Int32))), .val (.int (1 : Int32)), .val (.int (0 : Int32)), .val (.int (1 : Int32))] [])) _
    refine XS.iconst X21.here hx rfl (hb hby at_146) ?_
    show Steps p.tables e below (T21.setTop (mkF m 147 #[.val (.int p1), .val (.int p2), .val (.ref b3), .val (.int (p1 &&& (15 : Int32))), .val (.int (1 : Int32)), .val (.int (0 : Int32)), .val (.int (1 : Int32))] [(.int (1 : Int32))])) _
    refine XS.goto X21.here hx rfl (pc0 := 147) (pc' := 151) rfl (hb hby at_147) (by decide) (by decide) ?_
    show Steps p.tables e below (T21.setTop (mkF m 151 #[.val (.int p1), .val (.int p2), .val (.ref b3), .val (.int (p1 &&& (15 : Int32))), .val (.int (1 : Int32)), .val (.int (0 : Int32)), .val (.int (1 : Int32))] [(.int (1 : Int32))])) _
    exact retN X21 hx (t := .boolean) Bd.returns (by simp) (hb hby at_151) hr
  · show Q0 Z p1 p2 h0 n0 _ T21.heap _
    exact ⟨rfl, N21⟩
set_option maxRecDepth 65536 in
set_option maxHeartbeats 40000000 in
theorem rm0_ffffff (l : Launch) (Z : State) (a0 : Array Value) (hw : ∀ d ∈ tables_1, d.before a0 Z = true) (ws : List Jvm.Cond) (p1 : Int32) (p2 : Int32) (h0 : Heap) (n0 : Nat) (Z0 : n0 ≤ h0.size) (hc102 : ¬ (p2 < (0 : Int32))) (hc108 : p2 < (16 : Int32)) (hc138 : ¬ ((1 : Int32) = (0 : Int32))) (hc143 : ¬ ((1 : Int32) = (0 : Int32))) (hc91 : (own_ff (p1 &&& (15 : Int32))) = (own_ff (p1 &&& (15 : Int32)))) (hc126 : (own_ff p2) = (own_ff p2)) :
    MetFree l x (head1 (Jvm.Cond.code x code maxLocals ret :: ws) room_1) (fun a U => a = #[(.int p1), (.int p2)] ∧ Z.Warmed39 U.vm ∧ U.heap = h0) (fun _ _ _ _ _ => True) (fun _ U o U' => ∃ v L, o = .returned v ∧ Q0 Z p1 p2 h0 n0 v U'.heap L ∧ FrameEnd U o U' L room_1.cells room_1.slots) := by
  refine MetFree.of_bodySF (plainFor_of_name pn_0) hisR ?_
  intro p e s m args below meth c s₁ Bd hml0 hP hK
  obtain ⟨rfl, hZ, hh⟩ := hP
  have hx := Bd.exec
  have hby := Bd.bytes
  have hml : c.maxLocals = 7 := hml0
  have hown : s.vm.findClass "com/example/ratatoskr/ratatoskr/mqtt/PacketsFixedFlagsPinLaw" = some m.cls := findClass_of_methodNamed Bd.named
  have hnm := (name_of_methodNamed Bd.named Bd.method).1
  have X0 : Stand p l e room_1 s m #[(.int p1), (.int p2)] below meth c s₁ [] 0 0 := Stand.of_body Bd
  have e0 : s₁.heap = h0 := by rw [← hh, Bd.state]; rfl
  have N0 := Fr.nil n0
  have pre0 : ∀ t, Steps p.tables e below (s₁.setTop (mkF m 0 #[.val (.int p1), .val (.int p2), .unset, .unset, .unset, .unset, .unset] [])) t → Steps p.tables e below (s₁.setTop (entryFrame m #[(.int p1), (.int p2)] maxLocals)) t := fun t k => castTop (ef_0 m p1 p2) k
  obtain ⟨T3, h3, k3, X3, e3, E3, A3, st3⟩ := newP X0 hx hZ (hw _ (List.mem_of_getElem? (i := 0) rfl)) e0 (g := (mkF m 2 #[.val (.int p1), .val (.int p2), .unset, .unset, .unset, .unset, .unset] [(.int (16 : Int32))])) rfl (hb hby at_2) rfl (by decide) (cap := 16) (by decide) (by decide) (by decide) (by decide)
  obtain ⟨b3, g3⟩ : ∃ z, z = h0.size := ⟨_, rfl⟩
  rw [← g3] at A3 st3
  have V_b3 : Arv Z h3 b3 k3 .int (16 : Int32) [(.int (0 : Int32)), (.int (0 : Int32)), (.int (0 : Int32)), (.int (0 : Int32)), (.int (0 : Int32)), (.int (0 : Int32)), (.int (0 : Int32)), (.int (0 : Int32)), (.int (0 : Int32)), (.int (0 : Int32)), (.int (0 : Int32)), (.int (0 : Int32)), (.int (0 : Int32)), (.int (0 : Int32)), (.int (0 : Int32)), (.int (0 : Int32))] (.int (0 : Int32)) := (Arv.new A3 (by decide)).pad (pad_rep [] (.int (0 : Int32)) 16)
  have g_b3 : n0 ≤ b3 := Nat.le_trans Z0 (Nat.le_of_eq g3.symm)
  have sz_b3 : h0.size ≤ b3 := (Nat.le_trans (Keep.refl h0 []).1 (Nat.le_of_eq g3.symm))
  have K3 : Keep h0 h3 [] := (Keep.refl h0 []).ext E3
  obtain ⟨cl_b3_7, Ar_b3, q_b3, S_b3, N_b3, H_b3, G_b3⟩ := V_b3
  have hin7 : ¬ ((0 : Int32) < 0 ∨ cl_b3_7.slots.size ≤ ((0 : Int32)).toNatClampNeg) := inb_of S_b3 ⟨by decide, by decide⟩
  obtain ⟨T4, h4, X4, e4, W4, st4⟩ := stI X3 hx hZ e3 Ar_b3 (j := (0 : Int32)) hin7 (g := (mkF m 7 #[.val (.int p1), .val (.int p2), .unset, .unset, .unset, .unset, .unset] [(.int (0 : Int32)), (.int (0 : Int32)), (.ref b3), (.ref b3)])) rfl rfl (hb hby at_7)
  have V_b3_4 := Arv.set Ar_b3 q_b3 S_b3 N_b3 H_b3 G_b3 rfl W4 0 rfl (Nat.le_of_ble_eq_true rfl)
  have K4 : Keep h0 h4 [] := K3.wr W4 (Or.inr sz_b3)
  have N4 := Fr.snoc X4 N0 g_b3
  obtain ⟨cl_b3_11, Ar_b3, q_b3, S_b3, N_b3, H_b3, G_b3⟩ := V_b3_4
  have hin11 : ¬ ((1 : Int32) < 0 ∨ cl_b3_11.slots.size ≤ ((1 : Int32)).toNatClampNeg) := inb_of S_b3 ⟨by decide, by decide⟩
  obtain ⟨T5, h5, X5, e5, W5, st5⟩ := stI X4 hx hZ e4 Ar_b3 (j := (1 : Int32)) hin11 (g := (mkF m 11 #[.val (.int p1), .val (.int p2), .unset, .unset, .unset, .unset, .unset] [(.int (0 : Int32)), (.int (1 : Int32)), (.ref b3), (.ref b3)])) rfl rfl (hb hby at_11)
  have V_b3_5 := Arv.set Ar_b3 q_b3 S_b3 N_b3 H_b3 G_b3 rfl W5 1 rfl (Nat.le_of_ble_eq_true rfl)
  have K5 : Keep h0 h5 [] := K4.wr W5 (Or.inr sz_b3)
  have N5 := Fr.snoc X5 N4 g_b3
  obtain ⟨cl_b3_15, Ar_b3, q_b3, S_b3, N_b3, H_b3, G_b3⟩ := V_b3_5
  have hin15 : ¬ ((2 : Int32) < 0 ∨ cl_b3_15.slots.size ≤ ((2 : Int32)).toNatClampNeg) := inb_of S_b3 ⟨by decide, by decide⟩
  obtain ⟨T6, h6, X6, e6, W6, st6⟩ := stI X5 hx hZ e5 Ar_b3 (j := (2 : Int32)) hin15 (g := (mkF m 15 #[.val (.int p1), .val (.int p2), .unset, .unset, .unset, .unset, .unset] [(.int (0 : Int32)), (.int (2 : Int32)), (.ref b3), (.ref b3)])) rfl rfl (hb hby at_15)
  have V_b3_6 := Arv.set Ar_b3 q_b3 S_b3 N_b3 H_b3 G_b3 rfl W6 2 rfl (Nat.le_of_ble_eq_true rfl)
  have K6 : Keep h0 h6 [] := K5.wr W6 (Or.inr sz_b3)
  have N6 := Fr.snoc X6 N5 g_b3
  obtain ⟨cl_b3_19, Ar_b3, q_b3, S_b3, N_b3, H_b3, G_b3⟩ := V_b3_6
  have hin19 : ¬ ((3 : Int32) < 0 ∨ cl_b3_19.slots.size ≤ ((3 : Int32)).toNatClampNeg) := inb_of S_b3 ⟨by decide, by decide⟩
  obtain ⟨T7, h7, X7, e7, W7, st7⟩ := stI X6 hx hZ e6 Ar_b3 (j := (3 : Int32)) hin19 (g := (mkF m 19 #[.val (.int p1), .val (.int p2), .unset, .unset, .unset, .unset, .unset] [(.int (0 : Int32)), (.int (3 : Int32)), (.ref b3), (.ref b3)])) rfl rfl (hb hby at_19)
  have V_b3_7 := Arv.set Ar_b3 q_b3 S_b3 N_b3 H_b3 G_b3 rfl W7 3 rfl (Nat.le_of_ble_eq_true rfl)
  have K7 : Keep h0 h7 [] := K6.wr W7 (Or.inr sz_b3)
  have N7 := Fr.snoc X7 N6 g_b3
  obtain ⟨cl_b3_23, Ar_b3, q_b3, S_b3, N_b3, H_b3, G_b3⟩ := V_b3_7
  have hin23 : ¬ ((4 : Int32) < 0 ∨ cl_b3_23.slots.size ≤ ((4 : Int32)).toNatClampNeg) := inb_of S_b3 ⟨by decide, by decide⟩
  obtain ⟨T8, h8, X8, e8, W8, st8⟩ := stI X7 hx hZ e7 Ar_b3 (j := (4 : Int32)) hin23 (g := (mkF m 23 #[.val (.int p1), .val (.int p2), .unset, .unset, .unset, .unset, .unset] [(.int (0 : Int32)), (.int (4 : Int32)), (.ref b3), (.ref b3)])) rfl rfl (hb hby at_23)
  have V_b3_8 := Arv.set Ar_b3 q_b3 S_b3 N_b3 H_b3 G_b3 rfl W8 4 rfl (Nat.le_of_ble_eq_true rfl)
  have K8 : Keep h0 h8 [] := K7.wr W8 (Or.inr sz_b3)
  have N8 := Fr.snoc X8 N7 g_b3
  obtain ⟨cl_b3_27, Ar_b3, q_b3, S_b3, N_b3, H_b3, G_b3⟩ := V_b3_8
  have hin27 : ¬ ((5 : Int32) < 0 ∨ cl_b3_27.slots.size ≤ ((5 : Int32)).toNatClampNeg) := inb_of S_b3 ⟨by decide, by decide⟩
  obtain ⟨T9, h9, X9, e9, W9, st9⟩ := stI X8 hx hZ e8 Ar_b3 (j := (5 : Int32)) hin27 (g := (mkF m 27 #[.val (.int p1), .val (.int p2), .unset, .unset, .unset, .unset, .unset] [(.int (0 : Int32)), (.int (5 : Int32)), (.ref b3), (.ref b3)])) rfl rfl (hb hby at_27)
  have V_b3_9 := Arv.set Ar_b3 q_b3 S_b3 N_b3 H_b3 G_b3 rfl W9 5 rfl (Nat.le_of_ble_eq_true rfl)
  have K9 : Keep h0 h9 [] := K8.wr W9 (Or.inr sz_b3)
  have N9 := Fr.snoc X9 N8 g_b3
  obtain ⟨cl_b3_32, Ar_b3, q_b3, S_b3, N_b3, H_b3, G_b3⟩ := V_b3_9
  have hin32 : ¬ ((6 : Int32) < 0 ∨ cl_b3_32.slots.size ≤ ((6 : Int32)).toNatClampNeg) := inb_of S_b3 ⟨by decide, by decide⟩
  obtain ⟨T10, h10, X10, e10, W10, st10⟩ := stI X9 hx hZ e9 Ar_b3 (j := (6 : Int32)) hin32 (g := (mkF m 32 #[.val (.int p1), .val (.int p2), .unset, .unset, .unset, .unset, .unset] [(.int (2 : Int32)), (.int (6 : Int32)), (.ref b3), (.ref b3)])) rfl rfl (hb hby at_32)
  have V_b3_10 := Arv.set Ar_b3 q_b3 S_b3 N_b3 H_b3 G_b3 rfl W10 6 rfl (Nat.le_of_ble_eq_true rfl)
  have K10 : Keep h0 h10 [] := K9.wr W10 (Or.inr sz_b3)
  have N10 := Fr.snoc X10 N9 g_b3
  obtain ⟨cl_b3_37, Ar_b3, q_b3, S_b3, N_b3, H_b3, G_b3⟩ := V_b3_10
  have hin37 : ¬ ((7 : Int32) < 0 ∨ cl_b3_37.slots.size ≤ ((7 : Int32)).toNatClampNeg) := inb_of S_b3 ⟨by decide, by decide⟩
  obtain ⟨T11, h11, X11, e11, W11, st11⟩ := stI X10 hx hZ e10 Ar_b3 (j := (7 : Int32)) hin37 (g := (mkF m 37 #[.val (.int p1), .val (.int p2), .unset, .unset, .unset, .unset, .unset] [(.int (0 : Int32)), (.int (7 : Int32)), (.ref b3), (.ref b3)])) rfl rfl (hb hby at_37)
  have V_b3_11 := Arv.set Ar_b3 q_b3 S_b3 N_b3 H_b3 G_b3 rfl W11 7 rfl (Nat.le_of_ble_eq_true rfl)
  have K11 : Keep h0 h11 [] := K10.wr W11 (Or.inr sz_b3)
  have N11 := Fr.snoc X11 N10 g_b3
  obtain ⟨cl_b3_42, Ar_b3, q_b3, S_b3, N_b3, H_b3, G_b3⟩ := V_b3_11
  have hin42 : ¬ ((8 : Int32) < 0 ∨ cl_b3_42.slots.size ≤ ((8 : Int32)).toNatClampNeg) := inb_of S_b3 ⟨by decide, by decide⟩
  obtain ⟨T12, h12, X12, e12, W12, st12⟩ := stI X11 hx hZ e11 Ar_b3 (j := (8 : Int32)) hin42 (g := (mkF m 42 #[.val (.int p1), .val (.int p2), .unset, .unset, .unset, .unset, .unset] [(.int (2 : Int32)), (.int (8 : Int32)), (.ref b3), (.ref b3)])) rfl rfl (hb hby at_42)
  have V_b3_12 := Arv.set Ar_b3 q_b3 S_b3 N_b3 H_b3 G_b3 rfl W12 8 rfl (Nat.le_of_ble_eq_true rfl)
  have K12 : Keep h0 h12 [] := K11.wr W12 (Or.inr sz_b3)
  have N12 := Fr.snoc X12 N11 g_b3
  obtain ⟨cl_b3_47, Ar_b3, q_b3, S_b3, N_b3, H_b3, G_b3⟩ := V_b3_12
  have hin47 : ¬ ((9 : Int32) < 0 ∨ cl_b3_47.slots.size ≤ ((9 : Int32)).toNatClampNeg) := inb_of S_b3 ⟨by decide, by decide⟩
  obtain ⟨T13, h13, X13, e13, W13, st13⟩ := stI X12 hx hZ e12 Ar_b3 (j := (9 : Int32)) hin47 (g := (mkF m 47 #[.val (.int p1), .val (.int p2), .unset, .unset, .unset, .unset, .unset] [(.int (0 : Int32)), (.int (9 : Int32)), (.ref b3), (.ref b3)])) rfl rfl (hb hby at_47)
  have V_b3_13 := Arv.set Ar_b3 q_b3 S_b3 N_b3 H_b3 G_b3 rfl W13 9 rfl (Nat.le_of_ble_eq_true rfl)
  have K13 : Keep h0 h13 [] := K12.wr W13 (Or.inr sz_b3)
  have N13 := Fr.snoc X13 N12 g_b3
  obtain ⟨cl_b3_52, Ar_b3, q_b3, S_b3, N_b3, H_b3, G_b3⟩ := V_b3_13
  have hin52 : ¬ ((10 : Int32) < 0 ∨ cl_b3_52.slots.size ≤ ((10 : Int32)).toNatClampNeg) := inb_of S_b3 ⟨by decide, by decide⟩
  obtain ⟨T14, h14, X14, e14, W14, st14⟩ := stI X13 hx hZ e13 Ar_b3 (j := (10 : Int32)) hin52 (g := (mkF m 52 #[.val (.int p1), .val (.int p2), .unset, .unset, .unset, .unset, .unset] [(.int (2 : Int32)), (.int (10 : Int32)), (.ref b3), (.ref b3)])) rfl rfl (hb hby at_52)
  have V_b3_14 := Arv.set Ar_b3 q_b3 S_b3 N_b3 H_b3 G_b3 rfl W14 10 rfl (Nat.le_of_ble_eq_true rfl)
  have K14 : Keep h0 h14 [] := K13.wr W14 (Or.inr sz_b3)
  have N14 := Fr.snoc X14 N13 g_b3
  obtain ⟨cl_b3_57, Ar_b3, q_b3, S_b3, N_b3, H_b3, G_b3⟩ := V_b3_14
  have hin57 : ¬ ((11 : Int32) < 0 ∨ cl_b3_57.slots.size ≤ ((11 : Int32)).toNatClampNeg) := inb_of S_b3 ⟨by decide, by decide⟩
  obtain ⟨T15, h15, X15, e15, W15, st15⟩ := stI X14 hx hZ e14 Ar_b3 (j := (11 : Int32)) hin57 (g := (mkF m 57 #[.val (.int p1), .val (.int p2), .unset, .unset, .unset, .unset, .unset] [(.int (0 : Int32)), (.int (11 : Int32)), (.ref b3), (.ref b3)])) rfl rfl (hb hby at_57)
  have V_b3_15 := Arv.set Ar_b3 q_b3 S_b3 N_b3 H_b3 G_b3 rfl W15 11 rfl (Nat.le_of_ble_eq_true rfl)
  have K15 : Keep h0 h15 [] := K14.wr W15 (Or.inr sz_b3)
  have N15 := Fr.snoc X15 N14 g_b3
  obtain ⟨cl_b3_62, Ar_b3, q_b3, S_b3, N_b3, H_b3, G_b3⟩ := V_b3_15
  have hin62 : ¬ ((12 : Int32) < 0 ∨ cl_b3_62.slots.size ≤ ((12 : Int32)).toNatClampNeg) := inb_of S_b3 ⟨by decide, by decide⟩
  obtain ⟨T16, h16, X16, e16, W16, st16⟩ := stI X15 hx hZ e15 Ar_b3 (j := (12 : Int32)) hin62 (g := (mkF m 62 #[.val (.int p1), .val (.int p2), .unset, .unset, .unset, .unset, .unset] [(.int (0 : Int32)), (.int (12 : Int32)), (.ref b3), (.ref b3)])) rfl rfl (hb hby at_62)
  have V_b3_16 := Arv.set Ar_b3 q_b3 S_b3 N_b3 H_b3 G_b3 rfl W16 12 rfl (Nat.le_of_ble_eq_true rfl)
  have K16 : Keep h0 h16 [] := K15.wr W16 (Or.inr sz_b3)
  have N16 := Fr.snoc X16 N15 g_b3
  obtain ⟨cl_b3_67, Ar_b3, q_b3, S_b3, N_b3, H_b3, G_b3⟩ := V_b3_16
  have hin67 : ¬ ((13 : Int32) < 0 ∨ cl_b3_67.slots.size ≤ ((13 : Int32)).toNatClampNeg) := inb_of S_b3 ⟨by decide, by decide⟩
  obtain ⟨T17, h17, X17, e17, W17, st17⟩ := stI X16 hx hZ e16 Ar_b3 (j := (13 : Int32)) hin67 (g := (mkF m 67 #[.val (.int p1), .val (.int p2), .unset, .unset, .unset, .unset, .unset] [(.int (0 : Int32)), (.int (13 : Int32)), (.ref b3), (.ref b3)])) rfl rfl (hb hby at_67)
  have V_b3_17 := Arv.set Ar_b3 q_b3 S_b3 N_b3 H_b3 G_b3 rfl W17 13 rfl (Nat.le_of_ble_eq_true rfl)
  have K17 : Keep h0 h17 [] := K16.wr W17 (Or.inr sz_b3)
  have N17 := Fr.snoc X17 N16 g_b3
  obtain ⟨cl_b3_72, Ar_b3, q_b3, S_b3, N_b3, H_b3, G_b3⟩ := V_b3_17
  have hin72 : ¬ ((14 : Int32) < 0 ∨ cl_b3_72.slots.size ≤ ((14 : Int32)).toNatClampNeg) := inb_of S_b3 ⟨by decide, by decide⟩
  obtain ⟨T18, h18, X18, e18, W18, st18⟩ := stI X17 hx hZ e17 Ar_b3 (j := (14 : Int32)) hin72 (g := (mkF m 72 #[.val (.int p1), .val (.int p2), .unset, .unset, .unset, .unset, .unset] [(.int (0 : Int32)), (.int (14 : Int32)), (.ref b3), (.ref b3)])) rfl rfl (hb hby at_72)
  have V_b3_18 := Arv.set Ar_b3 q_b3 S_b3 N_b3 H_b3 G_b3 rfl W18 14 rfl (Nat.le_of_ble_eq_true rfl)
  have K18 : Keep h0 h18 [] := K17.wr W18 (Or.inr sz_b3)
  have N18 := Fr.snoc X18 N17 g_b3
  obtain ⟨cl_b3_77, Ar_b3, q_b3, S_b3, N_b3, H_b3, G_b3⟩ := V_b3_18
  have hin77 : ¬ ((15 : Int32) < 0 ∨ cl_b3_77.slots.size ≤ ((15 : Int32)).toNatClampNeg) := inb_of S_b3 ⟨by decide, by decide⟩
  obtain ⟨T19, h19, X19, e19, W19, st19⟩ := stI X18 hx hZ e18 Ar_b3 (j := (15 : Int32)) hin77 (g := (mkF m 77 #[.val (.int p1), .val (.int p2), .unset, .unset, .unset, .unset, .unset] [(.int (0 : Int32)), (.int (15 : Int32)), (.ref b3), (.ref b3)])) rfl rfl (hb hby at_77)
  have V_b3_19 := Arv.set Ar_b3 q_b3 S_b3 N_b3 H_b3 G_b3 rfl W19 15 rfl (Nat.le_of_ble_eq_true rfl)
  have K19 : Keep h0 h19 [] := K18.wr W19 (Or.inr sz_b3)
  have N19 := Fr.snoc X19 N18 g_b3
  obtain ⟨_, _, ⟨T20, L20, k20, n20⟩, -, X20, ⟨Lc20, hQ20, l20, y20, z20⟩, st20⟩ := Jvm.LawKit.callS X19 hx (y := (⟨"com/example/ratatoskr/ratatoskr/mqtt/Packets", "fixedFlags", "(I)I"⟩ : MethodName)) hown (mvT hZ (hw _ (List.mem_of_getElem? (i := 1) rfl))) (mvT hZ (hw _ (List.mem_of_getElem? (i := 2) rfl))) (mvT hZ (hw _ (List.mem_of_getElem? (i := 3) rfl))) (mvT hZ (hw _ (List.mem_of_getElem? (i := 4) rfl))) (by decide) (backOf (W := 0) (rm1 l Z a0 hw [] (p1 &&& (15 : Int32)) h19 n0 (Nat.le_trans Z0 K19.1)) hZ (hw _ (List.mem_of_getElem? (i := 4) rfl)) (hw _ (List.mem_of_getElem? (i := 3) rfl)) (by decide) (by decide)) (g := (mkF m 85 #[.val (.int p1), .val (.int p2), .val (.ref b3), .val (.int (p1 &&& (15 : Int32))), .unset, .unset, .unset] [(.int (p1 &&& (15 : Int32)))])) rfl (by rw [hml]; rfl) (argsL := [(.int (p1 &&& (15 : Int32)))]) (rest := []) (lenOf pd_0_0 rfl) rfl (by show 2 * 0 + _ ≤ _; exact Nat.le_of_eq rfl) (hb hby at_85) (fun _ _ => ⟨rfl, e19, (Nat.le_of_ble_eq_true rfl), (Nat.le_of_ble_eq_true rfl)⟩)
  dsimp only [Pt.U, Pt.locs, Pt.cells, Pt.slots] at X20 l20 y20 z20 st20 hQ20
  subst l20 y20 z20
  obtain ⟨rfl, N20q, h20q⟩ := hQ20
  have Kq20 : Keep h19 T20.heap [] := by rw [h20q]; exact Keep.refl _ _
  have K20 : Keep h0 T20.heap [] := K19.trans Kq20 (fun _ q => nomatch q)
  have N20 := Fr.app N19 N20q
  have Vo90 := (show Arv Z T20.heap b3 k3 .int (16 : Int32) [(.int (0 : Int32)), (.int (0 : Int32)), (.int (0 : Int32)), (.int (0 : Int32)), (.int (0 : Int32)), (.int (0 : Int32)), (.int (2 : Int32)), (.int (0 : Int32)), (.int (2 : Int32)), (.int (0 : Int32)), (.int (2 : Int32)), (.int (0 : Int32)), (.int (0 : Int32)), (.int (0 : Int32)), (.int (0 : Int32)), (.int (0 : Int32))] (.int (0 : Int32)) from (V_b3_19.keep Kq20 List.not_mem_nil))
  obtain ⟨cl90_, Ar90_, q90_, S90_, N90_, H90_, G90_⟩ := Vo90
  have hin90 : ¬ ((p1 &&& (15 : Int32)) < 0 ∨ cl90_.slots.size ≤ ((p1 &&& (15 : Int32))).toNatClampNeg) := inb_of S90_ (own_low p1)
  have hat90 : cl90_.slots[((p1 &&& (15 : Int32))).toNatClampNeg]? = some (.int (own_ff (p1 &&& (15 : Int32)))) := by rw [H90_ _ (Nat.lt_of_not_le fun q => hin90 (Or.inr q))]; exact congrArg some (own_at _ (own_low p1).1 (own_low p1).2)
  have Vo113 := (show Arv Z T20.heap b3 k3 .int (16 : Int32) [(.int (0 : Int32)), (.int (0 : Int32)), (.int (0 : Int32)), (.int (0 : Int32)), (.int (0 : Int32)), (.int (0 : Int32)), (.int (2 : Int32)), (.int (0 : Int32)), (.int (2 : Int32)), (.int (0 : Int32)), (.int (2 : Int32)), (.int (0 : Int32)), (.int (0 : Int32)), (.int (0 : Int32)), (.int (0 : Int32)), (.int (0 : Int32))] (.int (0 : Int32)) from (V_b3_19.keep Kq20 List.not_mem_nil))
  obtain ⟨cl113_, Ar113_, q113_, S113_, N113_, H113_, G113_⟩ := Vo113
  have hin113 : ¬ (p2 < 0 ∨ cl113_.slots.size ≤ (p2).toNatClampNeg) := inb_of S113_ ⟨hc102, hc108⟩
  have hat113 : cl113_.slots[(p2).toNatClampNeg]? = some (.int (own_ff p2)) := by rw [H113_ _ (Nat.lt_of_not_le fun q => hin113 (Or.inr q))]; exact congrArg some (own_at _ (show _ ∧ _ from ⟨hc102, hc108⟩).1 (show _ ∧ _ from ⟨hc102, hc108⟩).2)
  obtain ⟨_, _, ⟨T21, L21, k21, n21⟩, -, X21, ⟨Lc21, hQ21, l21, y21, z21⟩, st21⟩ := Jvm.LawKit.callS X20 hx (y := (⟨"com/example/ratatoskr/ratatoskr/mqtt/Packets", "fixedFlags", "(I)I"⟩ : MethodName)) hown (mvT hZ (hw _ (List.mem_of_getElem? (i := 1) rfl))) (mvT hZ (hw _ (List.mem_of_getElem? (i := 2) rfl))) (mvT hZ (hw _ (List.mem_of_getElem? (i := 3) rfl))) (mvT hZ (hw _ (List.mem_of_getElem? (i := 4) rfl))) (by decide) (backOf (W := 0) (rm1 l Z a0 hw [] p2 T20.heap n0 (Nat.le_trans Z0 K20.1)) hZ (hw _ (List.mem_of_getElem? (i := 4) rfl)) (hw _ (List.mem_of_getElem? (i := 3) rfl)) (by decide) (by decide)) (g := (mkF m 121 #[.val (.int p1), .val (.int p2), .val (.ref b3), .val (.int (p1 &&& (15 : Int32))), .val (.int (1 : Int32)), .val (.int (own_ff p2)), .unset] [(.int p2)])) rfl (by rw [hml]; rfl) (argsL := [(.int p2)]) (rest := []) (lenOf pd_0_0 rfl) rfl (by show 2 * 0 + _ ≤ _; exact Nat.le_of_eq rfl) (hb hby at_121) (fun _ _ => ⟨rfl, rfl, (Nat.le_of_ble_eq_true rfl), (Nat.le_of_ble_eq_true rfl)⟩)
  dsimp only [Pt.U, Pt.locs, Pt.cells, Pt.slots] at X21 l21 y21 z21 st21 hQ21
  subst l21 y21 z21
  obtain ⟨rfl, N21q, h21q⟩ := hQ21
  have Kq21 : Keep T20.heap T21.heap [] := by rw [h21q]; exact Keep.refl _ _
  have K21 : Keep h0 T21.heap [] := K20.trans Kq21 (fun _ q => nomatch q)
  have N21 := Fr.app N20 N21q
  obtain ⟨fs, hr, hrun, hended, hW, hsame⟩ := X21.leave (v := some (.int (1 : Int32))) (fun h => by rw [Bd.returns] at h; cases h)
  refine ⟨_, _, pre0 _ ?_, hrun, hended, _, _, rfl, ?_, ⟨_, rfl⟩, hW, hsame.mono (by decide) (by decide)⟩
  · show Steps p.tables e below (s₁.setTop (mkF m 0 #[.val (.int p1), .val (.int p2), .unset, .unset, .unset, .unset, .unset] [])) _
    refine XS.bipush X0.here hx rfl (hb hby at_0) ?_
    show Steps p.tables e below (s₁.setTop (mkF m 2 #[.val (.int p1), .val (.int p2), .unset, .unset, .unset, .unset, .unset] [(.int (16 : Int32))])) _
    refine st3 _ ?_
    show Steps p.tables e below (T3.setTop (mkF m 4 #[.val (.int p1), .val (.int p2), .unset, .unset, .unset, .unset, .unset] [(.ref b3)])) _
    refine XS.dup X3.here hx rfl (hb hby at_4) rfl rfl ?_
    show Steps p.tables e below (T3.setTop (mkF m 5 #[.val (.int p1), .val (.int p2), .unset, .unset, .unset, .unset, .unset] [(.ref b3), (.ref b3)])) _
    refine XS.iconst X3.here hx rfl (hb hby at_5) ?_
    show Steps p.tables e below (T3.setTop (mkF m 6 #[.val (.int p1), .val (.int p2), .unset, .unset, .unset, .unset, .unset] [(.int (0 : Int32)), (.ref b3), (.ref b3)])) _
    refine XS.iconst X3.here hx rfl (hb hby at_6) ?_
    show Steps p.tables e below (T3.setTop (mkF m 7 #[.val (.int p1), .val (.int p2), .unset, .unset, .unset, .unset, .unset] [(.int (0 : Int32)), (.int (0 : Int32)), (.ref b3), (.ref b3)])) _
    refine st4 _ ?_
    show Steps p.tables e below (T4.setTop (mkF m 8 #[.val (.int p1), .val (.int p2), .unset, .unset, .unset, .unset, .unset] [(.ref b3)])) _
    refine XS.dup X4.here hx rfl (hb hby at_8) rfl rfl ?_
    show Steps p.tables e below (T4.setTop (mkF m 9 #[.val (.int p1), .val (.int p2), .unset, .unset, .unset, .unset, .unset] [(.ref b3), (.ref b3)])) _
    refine XS.iconst X4.here hx rfl (hb hby at_9) ?_
    show Steps p.tables e below (T4.setTop (mkF m 10 #[.val (.int p1), .val (.int p2), .unset, .unset, .unset, .unset, .unset] [(.int (1 : Int32)), (.ref b3), (.ref b3)])) _
    refine XS.iconst X4.here hx rfl (hb hby at_10) ?_
    show Steps p.tables e below (T4.setTop (mkF m 11 #[.val (.int p1), .val (.int p2), .unset, .unset, .unset, .unset, .unset] [(.int (0 : Int32)), (.int (1 : Int32)), (.ref b3), (.ref b3)])) _
    refine st5 _ ?_
    show Steps p.tables e below (T5.setTop (mkF m 12 #[.val (.int p1), .val (.int p2), .unset, .unset, .unset, .unset, .unset] [(.ref b3)])) _
    refine XS.dup X5.here hx rfl (hb hby at_12) rfl rfl ?_
    show Steps p.tables e below (T5.setTop (mkF m 13 #[.val (.int p1), .val (.int p2), .unset, .unset, .unset, .unset, .unset] [(.ref b3), (.ref b3)])) _
    refine XS.iconst X5.here hx rfl (hb hby at_13) ?_
    show Steps p.tables e below (T5.setTop (mkF m 14 #[.val (.int p1), .val (.int p2), .unset, .unset, .unset, .unset, .unset] [(.int (2 : Int32)), (.ref b3), (.ref b3)])) _
    refine XS.iconst X5.here hx rfl (hb hby at_14) ?_
    show Steps p.tables e below (T5.setTop (mkF m 15 #[.val (.int p1), .val (.int p2), .unset, .unset, .unset, .unset, .unset] [(.int (0 : Int32)), (.int (2 : Int32)), (.ref b3), (.ref b3)])) _
    refine st6 _ ?_
    show Steps p.tables e below (T6.setTop (mkF m 16 #[.val (.int p1), .val (.int p2), .unset, .unset, .unset, .unset, .unset] [(.ref b3)])) _
    refine XS.dup X6.here hx rfl (hb hby at_16) rfl rfl ?_
    show Steps p.tables e below (T6.setTop (mkF m 17 #[.val (.int p1), .val (.int p2), .unset, .unset, .unset, .unset, .unset] [(.ref b3), (.ref b3)])) _
    refine XS.iconst X6.here hx rfl (hb hby at_17) ?_
    show Steps p.tables e below (T6.setTop (mkF m 18 #[.val (.int p1), .val (.int p2), .unset, .unset, .unset, .unset, .unset] [(.int (3 : Int32)), (.ref b3), (.ref b3)])) _
    refine XS.iconst X6.here hx rfl (hb hby at_18) ?_
    show Steps p.tables e below (T6.setTop (mkF m 19 #[.val (.int p1), .val (.int p2), .unset, .unset, .unset, .unset, .unset] [(.int (0 : Int32)), (.int (3 : Int32)), (.ref b3), (.ref b3)])) _
    refine st7 _ ?_
    show Steps p.tables e below (T7.setTop (mkF m 20 #[.val (.int p1), .val (.int p2), .unset, .unset, .unset, .unset, .unset] [(.ref b3)])) _
    refine XS.dup X7.here hx rfl (hb hby at_20) rfl rfl ?_
    show Steps p.tables e below (T7.setTop (mkF m 21 #[.val (.int p1), .val (.int p2), .unset, .unset, .unset, .unset, .unset] [(.ref b3), (.ref b3)])) _
    refine XS.iconst X7.here hx rfl (hb hby at_21) ?_
    show Steps p.tables e below (T7.setTop (mkF m 22 #[.val (.int p1), .val (.int p2), .unset, .unset, .unset, .unset, .unset] [(.int (4 : Int32)), (.ref b3), (.ref b3)])) _
    refine XS.iconst X7.here hx rfl (hb hby at_22) ?_
    show Steps p.tables e below (T7.setTop (mkF m 23 #[.val (.int p1), .val (.int p2), .unset, .unset, .unset, .unset, .unset] [(.int (0 : Int32)), (.int (4 : Int32)), (.ref b3), (.ref b3)])) _
    refine st8 _ ?_
    show Steps p.tables e below (T8.setTop (mkF m 24 #[.val (.int p1), .val (.int p2), .unset, .unset, .unset, .unset, .unset] [(.ref b3)])) _
    refine XS.dup X8.here hx rfl (hb hby at_24) rfl rfl ?_
    show Steps p.tables e below (T8.setTop (mkF m 25 #[.val (.int p1), .val (.int p2), .unset, .unset, .unset, .unset, .unset] [(.ref b3), (.ref b3)])) _
    refine XS.iconst X8.here hx rfl (hb hby at_25) ?_
    show Steps p.tables e below (T8.setTop (mkF m 26 #[.val (.int p1), .val (.int p2), .unset, .unset, .unset, .unset, .unset] [(.int (5 : Int32)), (.ref b3), (.ref b3)])) _
    refine XS.iconst X8.here hx rfl (hb hby at_26) ?_
    show Steps p.tables e below (T8.setTop (mkF m 27 #[.val (.int p1), .val (.int p2), .unset, .unset, .unset, .unset, .unset] [(.int (0 : Int32)), (.int (5 : Int32)), (.ref b3), (.ref b3)])) _
    refine st9 _ ?_
    show Steps p.tables e below (T9.setTop (mkF m 28 #[.val (.int p1), .val (.int p2), .unset, .unset, .unset, .unset, .unset] [(.ref b3)])) _
    refine XS.dup X9.here hx rfl (hb hby at_28) rfl rfl ?_
    show Steps p.tables e below (T9.setTop (mkF m 29 #[.val (.int p1), .val (.int p2), .unset, .unset, .unset, .unset, .unset] [(.ref b3), (.ref b3)])) _
    refine XS.bipush X9.here hx rfl (hb hby at_29) ?_
    show Steps p.tables e below (T9.setTop (mkF m 31 #[.val (.int p1), .val (.int p2), .unset, .unset, .unset, .unset, .unset] [(.int (6 : Int32)), (.ref b3), (.ref b3)])) _
    refine XS.iconst X9.here hx rfl (hb hby at_31) ?_
    show Steps p.tables e below (T9.setTop (mkF m 32 #[.val (.int p1), .val (.int p2), .unset, .unset, .unset, .unset, .unset] [(.int (2 : Int32)), (.int (6 : Int32)), (.ref b3), (.ref b3)])) _
    refine st10 _ ?_
    show Steps p.tables e below (T10.setTop (mkF m 33 #[.val (.int p1), .val (.int p2), .unset, .unset, .unset, .unset, .unset] [(.ref b3)])) _
    refine XS.dup X10.here hx rfl (hb hby at_33) rfl rfl ?_
    show Steps p.tables e below (T10.setTop (mkF m 34 #[.val (.int p1), .val (.int p2), .unset, .unset, .unset, .unset, .unset] [(.ref b3), (.ref b3)])) _
    refine XS.bipush X10.here hx rfl (hb hby at_34) ?_
    show Steps p.tables e below (T10.setTop (mkF m 36 #[.val (.int p1), .val (.int p2), .unset, .unset, .unset, .unset, .unset] [(.int (7 : Int32)), (.ref b3), (.ref b3)])) _
    refine XS.iconst X10.here hx rfl (hb hby at_36) ?_
    show Steps p.tables e below (T10.setTop (mkF m 37 #[.val (.int p1), .val (.int p2), .unset, .unset, .unset, .unset, .unset] [(.int (0 : Int32)), (.int (7 : Int32)), (.ref b3), (.ref b3)])) _
    refine st11 _ ?_
    show Steps p.tables e below (T11.setTop (mkF m 38 #[.val (.int p1), .val (.int p2), .unset, .unset, .unset, .unset, .unset] [(.ref b3)])) _
    refine XS.dup X11.here hx rfl (hb hby at_38) rfl rfl ?_
    show Steps p.tables e below (T11.setTop (mkF m 39 #[.val (.int p1), .val (.int p2), .unset, .unset, .unset, .unset, .unset] [(.ref b3), (.ref b3)])) _
    refine XS.bipush X11.here hx rfl (hb hby at_39) ?_
    show Steps p.tables e below (T11.setTop (mkF m 41 #[.val (.int p1), .val (.int p2), .unset, .unset, .unset, .unset, .unset] [(.int (8 : Int32)), (.ref b3), (.ref b3)])) _
    refine XS.iconst X11.here hx rfl (hb hby at_41) ?_
    show Steps p.tables e below (T11.setTop (mkF m 42 #[.val (.int p1), .val (.int p2), .unset, .unset, .unset, .unset, .unset] [(.int (2 : Int32)), (.int (8 : Int32)), (.ref b3), (.ref b3)])) _
    refine st12 _ ?_
    show Steps p.tables e below (T12.setTop (mkF m 43 #[.val (.int p1), .val (.int p2), .unset, .unset, .unset, .unset, .unset] [(.ref b3)])) _
    refine XS.dup X12.here hx rfl (hb hby at_43) rfl rfl ?_
    show Steps p.tables e below (T12.setTop (mkF m 44 #[.val (.int p1), .val (.int p2), .unset, .unset, .unset, .unset, .unset] [(.ref b3), (.ref b3)])) _
    refine XS.bipush X12.here hx rfl (hb hby at_44) ?_
    show Steps p.tables e below (T12.setTop (mkF m 46 #[.val (.int p1), .val (.int p2), .unset, .unset, .unset, .unset, .unset] [(.int (9 : Int32)), (.ref b3), (.ref b3)])) _
    refine XS.iconst X12.here hx rfl (hb hby at_46) ?_
    show Steps p.tables e below (T12.setTop (mkF m 47 #[.val (.int p1), .val (.int p2), .unset, .unset, .unset, .unset, .unset] [(.int (0 : Int32)), (.int (9 : Int32)), (.ref b3), (.ref b3)])) _
    refine st13 _ ?_
    show Steps p.tables e below (T13.setTop (mkF m 48 #[.val (.int p1), .val (.int p2), .unset, .unset, .unset, .unset, .unset] [(.ref b3)])) _
    refine XS.dup X13.here hx rfl (hb hby at_48) rfl rfl ?_
    show Steps p.tables e below (T13.setTop (mkF m 49 #[.val (.int p1), .val (.int p2), .unset, .unset, .unset, .unset, .unset] [(.ref b3), (.ref b3)])) _
    refine XS.bipush X13.here hx rfl (hb hby at_49) ?_
    show Steps p.tables e below (T13.setTop (mkF m 51 #[.val (.int p1), .val (.int p2), .unset, .unset, .unset, .unset, .unset] [(.int (10 : Int32)), (.ref b3), (.ref b3)])) _
    refine XS.iconst X13.here hx rfl (hb hby at_51) ?_
    show Steps p.tables e below (T13.setTop (mkF m 52 #[.val (.int p1), .val (.int p2), .unset, .unset, .unset, .unset, .unset] [(.int (2 : Int32)), (.int (10 : Int32)), (.ref b3), (.ref b3)])) _
    refine st14 _ ?_
    show Steps p.tables e below (T14.setTop (mkF m 53 #[.val (.int p1), .val (.int p2), .unset, .unset, .unset, .unset, .unset] [(.ref b3)])) _
    refine XS.dup X14.here hx rfl (hb hby at_53) rfl rfl ?_
    show Steps p.tables e below (T14.setTop (mkF m 54 #[.val (.int p1), .val (.int p2), .unset, .unset, .unset, .unset, .unset] [(.ref b3), (.ref b3)])) _
    refine XS.bipush X14.here hx rfl (hb hby at_54) ?_
    show Steps p.tables e below (T14.setTop (mkF m 56 #[.val (.int p1), .val (.int p2), .unset, .unset, .unset, .unset, .unset] [(.int (11 : Int32)), (.ref b3), (.ref b3)])) _
    refine XS.iconst X14.here hx rfl (hb hby at_56) ?_
    show Steps p.tables e below (T14.setTop (mkF m 57 #[.val (.int p1), .val (.int p2), .unset, .unset, .unset, .unset, .unset] [(.int (0 : Int32)), (.int (11 : Int32)), (.ref b3), (.ref b3)])) _
    refine st15 _ ?_
    show Steps p.tables e below (T15.setTop (mkF m 58 #[.val (.int p1), .val (.int p2), .unset, .unset, .unset, .unset, .unset] [(.ref b3)])) _
    refine XS.dup X15.here hx rfl (hb hby at_58) rfl rfl ?_
    show Steps p.tables e below (T15.setTop (mkF m 59 #[.val (.int p1), .val (.int p2), .unset, .unset, .unset, .unset, .unset] [(.ref b3), (.ref b3)])) _
    refine XS.bipush X15.here hx rfl (hb hby at_59) ?_
    show Steps p.tables e below (T15.setTop (mkF m 61 #[.val (.int p1), .val (.int p2), .unset, .unset, .unset, .unset, .unset] [(.int (12 : Int32)), (.ref b3), (.ref b3)])) _
    refine XS.iconst X15.here hx rfl (hb hby at_61) ?_
    show Steps p.tables e below (T15.setTop (mkF m 62 #[.val (.int p1), .val (.int p2), .unset, .unset, .unset, .unset, .unset] [(.int (0 : Int32)), (.int (12 : Int32)), (.ref b3), (.ref b3)])) _
    refine st16 _ ?_
    show Steps p.tables e below (T16.setTop (mkF m 63 #[.val (.int p1), .val (.int p2), .unset, .unset, .unset, .unset, .unset] [(.ref b3)])) _
    refine XS.dup X16.here hx rfl (hb hby at_63) rfl rfl ?_
    show Steps p.tables e below (T16.setTop (mkF m 64 #[.val (.int p1), .val (.int p2), .unset, .unset, .unset, .unset, .unset] [(.ref b3), (.ref b3)])) _
    refine XS.bipush X16.here hx rfl (hb hby at_64) ?_
    show Steps p.tables e below (T16.setTop (mkF m 66 #[.val (.int p1), .val (.int p2), .unset, .unset, .unset, .unset, .unset] [(.int (13 : Int32)), (.ref b3), (.ref b3)])) _
    refine XS.iconst X16.here hx rfl (hb hby at_66) ?_
    show Steps p.tables e below (T16.setTop (mkF m 67 #[.val (.int p1), .val (.int p2), .unset, .unset, .unset, .unset, .unset] [(.int (0 : Int32)), (.int (13 : Int32)), (.ref b3), (.ref b3)])) _
    refine st17 _ ?_
    show Steps p.tables e below (T17.setTop (mkF m 68 #[.val (.int p1), .val (.int p2), .unset, .unset, .unset, .unset, .unset] [(.ref b3)])) _
    refine XS.dup X17.here hx rfl (hb hby at_68) rfl rfl ?_
    show Steps p.tables e below (T17.setTop (mkF m 69 #[.val (.int p1), .val (.int p2), .unset, .unset, .unset, .unset, .unset] [(.ref b3), (.ref b3)])) _
    refine XS.bipush X17.here hx rfl (hb hby at_69) ?_
    show Steps p.tables e below (T17.setTop (mkF m 71 #[.val (.int p1), .val (.int p2), .unset, .unset, .unset, .unset, .unset] [(.int (14 : Int32)), (.ref b3), (.ref b3)])) _
    refine XS.iconst X17.here hx rfl (hb hby at_71) ?_
    show Steps p.tables e below (T17.setTop (mkF m 72 #[.val (.int p1), .val (.int p2), .unset, .unset, .unset, .unset, .unset] [(.int (0 : Int32)), (.int (14 : Int32)), (.ref b3), (.ref b3)])) _
    refine st18 _ ?_
    show Steps p.tables e below (T18.setTop (mkF m 73 #[.val (.int p1), .val (.int p2), .unset, .unset, .unset, .unset, .unset] [(.ref b3)])) _
    refine XS.dup X18.here hx rfl (hb hby at_73) rfl rfl ?_
    show Steps p.tables e below (T18.setTop (mkF m 74 #[.val (.int p1), .val (.int p2), .unset, .unset, .unset, .unset, .unset] [(.ref b3), (.ref b3)])) _
    refine XS.bipush X18.here hx rfl (hb hby at_74) ?_
    show Steps p.tables e below (T18.setTop (mkF m 76 #[.val (.int p1), .val (.int p2), .unset, .unset, .unset, .unset, .unset] [(.int (15 : Int32)), (.ref b3), (.ref b3)])) _
    refine XS.iconst X18.here hx rfl (hb hby at_76) ?_
    show Steps p.tables e below (T18.setTop (mkF m 77 #[.val (.int p1), .val (.int p2), .unset, .unset, .unset, .unset, .unset] [(.int (0 : Int32)), (.int (15 : Int32)), (.ref b3), (.ref b3)])) _
    refine st19 _ ?_
    show Steps p.tables e below (T19.setTop (mkF m 78 #[.val (.int p1), .val (.int p2), .unset, .unset, .unset, .unset, .unset] [(.ref b3)])) _
    refine XS.astoreN X19.here hx rfl (hb hby at_78) rfl rfl (l' := #[.val (.int p1), .val (.int p2), .val (.ref b3), .unset, .unset, .unset, .unset]) rfl ?_
    show Steps p.tables e below (T19.setTop (mkF m 79 #[.val (.int p1), .val (.int p2), .val (.ref b3), .unset, .unset, .unset, .unset] [])) _
    refine XS.iloadN X19.here hx rfl (hb hby at_79) rfl ?_
    show Steps p.tables e below (T19.setTop (mkF m 80 #[.val (.int p1), .val (.int p2), .val (.ref b3), .unset, .unset, .unset, .unset] [(.int p1)])) _
    refine XS.bipush X19.here hx rfl (hb hby at_80) ?_
    show Steps p.tables e below (T19.setTop (mkF m 82 #[.val (.int p1), .val (.int p2), .val (.ref b3), .unset, .unset, .unset, .unset] [(.int (15 : Int32)), (.int p1)])) _
    refine XS.iand X19.here hx rfl (hb hby at_82) rfl ?_
    show Steps p.tables e below (T19.setTop (mkF m 83 #[.val (.int p1), .val (.int p2), .val (.ref b3), .unset, .unset, .unset, .unset] [(.int (p1 &&& (15 : Int32)))])) _
    refine XS.istoreN X19.here hx rfl (hb hby at_83) rfl (l' := #[.val (.int p1), .val (.int p2), .val (.ref b3), .val (.int (p1 &&& (15 : Int32))), .unset, .unset, .unset]) rfl ?_
    show Steps p.tables e below (T19.setTop (mkF m 84 #[.val (.int p1), .val (.int p2), .val (.ref b3), .val (.int (p1 &&& (15 : Int32))), .unset, .unset, .unset] [])) _
    refine XS.iloadN X19.here hx rfl (hb hby at_84) rfl ?_
    show Steps p.tables e below (T19.setTop (mkF m 85 #[.val (.int p1), .val (.int p2), .val (.ref b3), .val (.int (p1 &&& (15 : Int32))), .unset, .unset, .unset] [(.int (p1 &&& (15 : Int32)))])) _
    refine st20 _ ?_
    show Steps p.tables e below (T20.setTop (mkF m 88 #[.val (.int p1), .val (.int p2), .val (.ref b3), .val (.int (p1 &&& (15 : Int32))), .unset, .unset, .unset] [(.int (own_ff (p1 &&& (15 : Int32))))])) _
    refine XS.aloadN X20.here hx rfl (hb hby at_88) rfl rfl ?_
    show Steps p.tables e below (T20.setTop (mkF m 89 #[.val (.int p1), .val (.int p2), .val (.ref b3), .val (.int (p1 &&& (15 : Int32))), .unset, .unset, .unset] [(.ref b3), (.int (own_ff (p1 &&& (15 : Int32))))])) _
    refine XS.iloadN X20.here hx rfl (hb hby at_89) rfl ?_
    show Steps p.tables e below (T20.setTop (mkF m 90 #[.val (.int p1), .val (.int p2), .val (.ref b3), .val (.int (p1 &&& (15 : Int32))), .unset, .unset, .unset] [(.int (p1 &&& (15 : Int32))), (.ref b3), (.int (own_ff (p1 &&& (15 : Int32))))])) _
    refine X20.iaload hx (j := (p1 &&& (15 : Int32))) (v := (.int (own_ff (p1 &&& (15 : Int32))))) (by exact Ar90_.1) (State.isArrayOf_alike hZ.alike Ar90_.2.1) Ar90_.2.2 hin90 hat90 (g := (mkF m 90 #[.val (.int p1), .val (.int p2), .val (.ref b3), .val (.int (p1 &&& (15 : Int32))), .unset, .unset, .unset] [(.int (p1 &&& (15 : Int32))), (.ref b3), (.int (own_ff (p1 &&& (15 : Int32))))])) rfl rfl (hb hby at_90) _ ?_
    show Steps p.tables e below (T20.setTop (mkF m 91 #[.val (.int p1), .val (.int p2), .val (.ref b3), .val (.int (p1 &&& (15 : Int32))), .unset, .unset, .unset] [(.int (own_ff (p1 &&& (15 : Int32)))), (.int (own_ff (p1 &&& (15 : Int32))))])) _
    refine XS.icmpNo X20.here hx rfl (hb hby at_91) rfl (teq hc91).2 ?_
    show Steps p.tables e below (T20.setTop (mkF m 94 #[.val (.int p1), .val (.int p2), .val (.ref b3), .val (.int (p1 &&& (15 : Int32))), .unset, .unset, .unset] [])) _
    refine XS.iconst X20.here hx rfl (hb hby at_94) ?_
    show Steps p.tables e below (T20.setTop (mkF m 95 #[.val (.int p1), .val (.int p2), .val (.ref b3), .val (.int (p1 &&& (15 : Int32))), .unset, .unset, .unset] [(.int (1 : Int32))])) _
    refine XS.goto X20.here hx rfl (pc0 := 95) (pc' := 99) rfl (hb hby at_95) (by decide) (by decide) ?_
    show Steps p.tables e below (T20.setTop (mkF m 99 #[.val (.int p1), .val (.int p2), .val (.ref b3), .val (.int (p1 &&& (15 : Int32))), .unset, .unset, .unset] [(.int (1 : Int32))])) _
    refine XS.istore X20.here hx rfl (hb hby at_99) rfl (l' := #[.val (.int p1), .val (.int p2), .val (.ref b3), .val (.int (p1 &&& (15 : Int32))), .val (.int (1 : Int32)), .unset, .unset]) rfl ?_
    show Steps p.tables e below (T20.setTop (mkF m 101 #[.val (.int p1), .val (.int p2), .val (.ref b3), .val (.int (p1 &&& (15 : Int32))), .val (.int (1 : Int32)), .unset, .unset] [])) _
    refine XS.iloadN X20.here hx rfl (hb hby at_101) rfl ?_
    show Steps p.tables e below (T20.setTop (mkF m 102 #[.val (.int p1), .val (.int p2), .val (.ref b3), .val (.int (p1 &&& (15 : Int32))), .val (.int (1 : Int32)), .unset, .unset] [(.int p2)])) _
    refine XS.ifNo X20.here hx rfl (hb hby at_102) rfl ((if0 _ _).trans (flt hc102).1) ?_
    show Steps p.tables e below (T20.setTop (mkF m 105 #[.val (.int p1), .val (.int p2), .val (.ref b3), .val (.int (p1 &&& (15 : Int32))), .val (.int (1 : Int32)), .unset, .unset] [])) _
    refine XS.iloadN X20.here hx rfl (hb hby at_105) rfl ?_
    show Steps p.tables e below (T20.setTop (mkF m 106 #[.val (.int p1), .val (.int p2), .val (.ref b3), .val (.int (p1 &&& (15 : Int32))), .val (.int (1 : Int32)), .unset, .unset] [(.int p2)])) _
    refine XS.bipush X20.here hx rfl (hb hby at_106) ?_
    show Steps p.tables e below (T20.setTop (mkF m 108 #[.val (.int p1), .val (.int p2), .val (.ref b3), .val (.int (p1 &&& (15 : Int32))), .val (.int (1 : Int32)), .unset, .unset] [(.int (16 : Int32)), (.int p2)])) _
    refine XS.icmpNo X20.here hx rfl (hb hby at_108) rfl (tlt hc108).2.1 ?_
    show Steps p.tables e below (T20.setTop (mkF m 111 #[.val (.int p1), .val (.int p2), .val (.ref b3), .val (.int (p1 &&& (15 : Int32))), .val (.int (1 : Int32)), .unset, .unset] [])) _
    refine XS.aloadN X20.here hx rfl (hb hby at_111) rfl rfl ?_
    show Steps p.tables e below (T20.setTop (mkF m 112 #[.val (.int p1), .val (.int p2), .val (.ref b3), .val (.int (p1 &&& (15 : Int32))), .val (.int (1 : Int32)), .unset, .unset] [(.ref b3)])) _
    refine XS.iloadN X20.here hx rfl (hb hby at_112) rfl ?_
    show Steps p.tables e below (T20.setTop (mkF m 113 #[.val (.int p1), .val (.int p2), .val (.ref b3), .val (.int (p1 &&& (15 : Int32))), .val (.int (1 : Int32)), .unset, .unset] [(.int p2), (.ref b3)])) _
    refine X20.iaload hx (j := p2) (v := (.int (own_ff p2))) (by exact Ar113_.1) (State.isArrayOf_alike hZ.alike Ar113_.2.1) Ar113_.2.2 hin113 hat113 (g := (mkF m 113 #[.val (.int p1), .val (.int p2), .val (.ref b3), .val (.int (p1 &&& (15 : Int32))), .val (.int (1 : Int32)), .unset, .unset] [(.int p2), (.ref b3)])) rfl rfl (hb hby at_113) _ ?_
    show Steps p.tables e below (T20.setTop (mkF m 114 #[.val (.int p1), .val (.int p2), .val (.ref b3), .val (.int (p1 &&& (15 : Int32))), .val (.int (1 : Int32)), .unset, .unset] [(.int (own_ff p2))])) _
    refine XS.goto X20.here hx rfl (pc0 := 114) (pc' := 118) rfl (hb hby at_114) (by decide) (by decide) ?_
    show Steps p.tables e below (T20.setTop (mkF m 118 #[.val (.int p1), .val (.int p2), .val (.ref b3), .val (.int (p1 &&& (15 : Int32))), .val (.int (1 : Int32)), .unset, .unset] [(.int (own_ff p2))])) _
    refine XS.istore X20.here hx rfl (hb hby at_118) rfl (l' := #[.val (.int p1), .val (.int p2), .val (.ref b3), .val (.int (p1 &&& (15 : Int32))), .val (.int (1 : Int32)), .val (.int (own_ff p2)), .unset]) rfl ?_
    show Steps p.tables e below (T20.setTop (mkF m 120 #[.val (.int p1), .val (.int p2), .val (.ref b3), .val (.int (p1 &&& (15 : Int32))), .val (.int (1 : Int32)), .val (.int (own_ff p2)), .unset] [])) _
    refine XS.iloadN X20.here hx rfl (hb hby at_120) rfl ?_
    show Steps p.tables e below (T20.setTop (mkF m 121 #[.val (.int p1), .val (.int p2), .val (.ref b3), .val (.int (p1 &&& (15 : Int32))), .val (.int (1 : Int32)), .val (.int (own_ff p2)), .unset] [(.int p2)])) _
    refine st21 _ ?_
    show Steps p.tables e below (T21.setTop (mkF m 124 #[.val (.int p1), .val (.int p2), .val (.ref b3), .val (.int (p1 &&& (15 : Int32))), .val (.int (1 : Int32)), .val (.int (own_ff p2)), .unset] [(.int (own_ff p2))])) _
    refine XS.iload X21.here hx rfl (hb hby at_124) rfl ?_
    show Steps p.tables e below (T21.setTop (mkF m 126 #[.val (.int p1), .val (.int p2), .val (.ref b3), .val (.int (p1 &&& (15 : Int32))), .val (.int (1 : Int32)), .val (.int (own_ff p2)), .unset] [(.int (own_ff p2)), (.int (own_ff p2))])) _
    refine XS.icmpNo X21.here hx rfl (hb hby at_126) rfl (teq hc126).2 ?_
    show Steps p.tables e below (T21.setTop (mkF m 129 #[.val (.int p1), .val (.int p2), .val (.ref b3), .val (.int (p1 &&& (15 : Int32))), .val (.int (1 : Int32)), .val (.int (own_ff p2)), .unset] [])) _
    refine XS.iconst X21.here hx rfl (hb hby at_129) ?_
    show Steps p.tables e below (T21.setTop (mkF m 130 #[.val (.int p1), .val (.int p2), .val (.ref b3), .val (.int (p1 &&& (15 : Int32))), .val (.int (1 : Int32)), .val (.int (own_ff p2)), .unset] [(.int (1 : Int32))])) _
    refine XS.goto X21.here hx rfl (pc0 := 130) (pc' := 134) rfl (hb hby at_130) (by decide) (by decide) ?_
    show Steps p.tables e below (T21.setTop (mkF m 134 #[.val (.int p1), .val (.int p2), .val (.ref b3), .val (.int (p1 &&& (15 : Int32))), .val (.int (1 : Int32)), .val (.int (own_ff p2)), .unset] [(.int (1 : Int32))])) _
    refine XS.istore X21.here hx rfl (hb hby at_134) rfl (l' := #[.val (.int p1), .val (.int p2), .val (.ref b3), .val (.int (p1 &&& (15 : Int32))), .val (.int (1 : Int32)), .val (.int (own_ff p2)), .val (.int (1 : Int32))]) rfl ?_
    show Steps p.tables e below (T21.setTop (mkF m 136 #[.val (.int p1), .val (.int p2), .val (.ref b3), .val (.int (p1 &&& (15 : Int32))), .val (.int (1 : Int32)), .val (.int (own_ff p2)), .val (.int (1 : Int32))] [])) _
    refine XS.iload X21.here hx rfl (hb hby at_136) rfl ?_
    show Steps p.tables e below (T21.setTop (mkF m 138 #[.val (.int p1), .val (.int p2), .val (.ref b3), .val (.int (p1 &&& (15 : Int32))), .val (.int (1 : Int32)), .val (.int (own_ff p2)), .val (.int (1 : Int32))] [(.int (1 : Int32))])) _
    refine XS.ifNo X21.here hx rfl (hb hby at_138) rfl ((if0 _ _).trans (feq hc138).1) ?_
    show Steps p.tables e below (T21.setTop (mkF m 141 #[.val (.int p1), .val (.int p2), .val (.ref b3), .val (.int (p1 &&& (15 : Int32))), .val (.int (1 : Int32)), .val (.int (own_ff p2)), .val (.int (1 : Int32))] [])) _
    refine XS.iload X21.here hx rfl (hb hby at_141) rfl ?_
    show Steps p.tables e below (T21.setTop (mkF m 143 #[.val (.int p1), .val (.int p2), .val (.ref b3), .val (.int (p1 &&& (15 : Int32))), .val (.int (1 : Int32)), .val (.int (own_ff p2)), .val (.int (1 : Int32))] [(.int (1 : Int32))])) _
    refine XS.ifNo X21.here hx rfl (hb hby at_143) rfl ((if0 _ _).trans (feq hc143).1) ?_
    show Steps p.tables e below (T21.setTop (mkF m 146 #[.val (.int p1), .val (.int p2), .val (.ref b3), .val (.int (p1 &&& (15 : Int32))), .val (.int (1 : Int32)), .val (.int (own_ff p2)), .val (.int (1 : Int32))] [])) _
    refine XS.iconst X21.here hx rfl (hb hby at_146) ?_
    show Steps p.tables e below (T21.setTop (mkF m 147 #[.val (.int p1), .val (.int p2), .val (.ref b3), .val (.int (p1 &&& (15 : Int32))), .val (.int (1 : Int32)), .val (.int (own_ff p2)), .val (.int (1 : Int32))] [(.int (1 : Int32))])) _
    refine XS.goto X21.here hx rfl (pc0 := 147) (pc' := 151) rfl (hb hby at_147) (by decide) (by decide) ?_
    show Steps p.tables e below (T21.setTop (mkF m 151 #[.val (.int p1), .val (.int p2), .val (.ref b3), .val (.int (p1 &&& (15 : Int32))), .val (.int (1 : Int32)), .val (.int (own_ff p2)), .val (.int (1 : Int32))] [(.int (1 : Int32))])) _
    exact retN X21 hx (t := .boolean) Bd.returns (by simp) (hb hby at_151) hr
  · show Q0 Z p1 p2 h0 n0 _ T21.heap _
    exact ⟨rfl, N21⟩
theorem own_cases (p1 : Int32) (p2 : Int32) : ((p2 < (0 : Int32)) ∧ ((own_ff (p1 &&& (15 : Int32))) = (own_ff (p1 &&& (15 : Int32)))) ∧ ((own_ff p2) = (0 : Int32))) ∨
    ((¬ (p2 < (0 : Int32))) ∧ (¬ (p2 < (16 : Int32))) ∧ ((own_ff (p1 &&& (15 : Int32))) = (own_ff (p1 &&& (15 : Int32)))) ∧ ((own_ff p2) = (0 : Int32))) ∨
    ((¬ (p2 < (0 : Int32))) ∧ (p2 < (16 : Int32)) ∧ ((own_ff (p1 &&& (15 : Int32))) = (own_ff (p1 &&& (15 : Int32)))) ∧ ((own_ff p2) = (own_ff p2))) := by
  by_cases h0 : p2 < (0 : Int32)
  · exact Or.inl ⟨h0, rfl, own_zero p2 (fun q => q.1 h0)⟩
  · by_cases h1 : p2 < (16 : Int32)
    · exact Or.inr (Or.inr ⟨h0, h1, rfl, rfl⟩)
    · exact Or.inr (Or.inl ⟨h0, h1, rfl, own_zero p2 (fun q => h1 q.2)⟩)
theorem rm0 (l : Launch) (Z : State) (a0 : Array Value) (hw : ∀ d ∈ tables_1, d.before a0 Z = true) (ws : List Jvm.Cond) (p1 : Int32) (p2 : Int32) (h0 : Heap) (n0 : Nat) (Z0 : n0 ≤ h0.size) :
    MetFree l x (head1 (Jvm.Cond.code x code maxLocals ret :: ws) room_1) (fun a U => a = #[(.int p1), (.int p2)] ∧ Z.Warmed39 U.vm ∧ U.heap = h0) (fun _ _ _ _ _ => True) (fun _ U o U' => ∃ v L, o = .returned v ∧ Q0 Z p1 p2 h0 n0 v U'.heap L ∧ FrameEnd U o U' L room_1.cells room_1.slots) := by
  rcases own_cases p1 p2 with ⟨hc102, hc91, hc126⟩ | ⟨hc102, hc108, hc91, hc126⟩ | ⟨hc102, hc108, hc91, hc126⟩
  · exact rm0_ftfff l Z a0 hw ws p1 p2 h0 n0 Z0 hc102 (by decide) (by decide) hc91 hc126
  · exact rm0_fftfff l Z a0 hw ws p1 p2 h0 n0 Z0 hc102 hc108 (by decide) (by decide) hc91 hc126
  · exact rm0_ffffff l Z a0 hw ws p1 p2 h0 n0 Z0 hc102 hc108 (by decide) (by decide) hc91 hc126
set_option maxRecDepth 65536 in
set_option maxHeartbeats 40000000 in
theorem comes_1 {Post : Tables → Env → Array Value → State → Outcome → State → Prop} (hpost : ∀ tb e args s v u, (limb_1_1.after args s (.returned v) u = true ∧ limb_1_2.after args s (.returned v) u = true ∧ True) → FrameEnd s (.returned v) u (Jvm.fieldLocs frame_1_writes args s ++ Jvm.arrayLocs frame_1_arrays args s ++ Jvm.staticLocs frame_1_statics s) 16 128 → Post tb e args s (.returned v) u) :
    ArmFor flags0 classFile x code maxLocals ret World_1 tables_1 room_1 Calls_1 rest_1 Pre_1 Post := by
  intro l hfl _ _ p e ha hc hk s m args below hf hA hF happ hP
  obtain ⟨hcalls, hrest, hpre⟩ := hP
  obtain ⟨-, -, -, hnamed, -, -, -, hat⟩ := (Spec.applies_iff hf).mp happ
  obtain ⟨hg, hn⟩ := and_e (Cond.before_iff.mp (show (Jvm.Cond.and given_1 narrow_1).before args s = true from hpre))
  obtain ⟨g22, g23⟩ := and_e hg
  obtain ⟨g24, g25⟩ := and_e g23
  obtain ⟨w0, w1, rfl⟩ : ∃ w0 w1 : Value, args = #[w0, w1] := by
    have hs : args.size = 2 := by simpa [Cond.value, given_1] using g22
    obtain ⟨L⟩ := args
    match L, hs with
    | [w0, w1], _ => exact ⟨w0, w1, rfl⟩
  have hw := fun d (hd : d ∈ tables_1) => atoms_spec (ws := Jvm.Cond.code x code maxLocals ret :: tables_1) hat d (List.mem_cons_of_mem _ hd)
  have hfit : Fit s := fun {y c} hc i hi => by
    obtain ⟨ha, rfl⟩ := Array.getElem?_eq_some_iff.mp hc
    have q := List.all_eq_true.mp ((Array.all_eq_true_iff_forall_mem.mp hF) _ (Array.getElem_mem ha)) i (List.mem_range.mpr hi)
    simpa [Array.getElem?_eq_getElem hi] using q
  obtain ⟨i0, ei0⟩ := is_v g24
  obtain rfl : w0 = (.int i0) := Option.some.inj ei0
  obtain ⟨i1, ei1⟩ := is_v g25
  obtain rfl : w1 = (.int i1) := Option.some.inj ei1
  obtain ⟨n, o, h1, h2, h3, _, L, rfl, ⟨rfl, N⟩, hq⟩ := rm0 l s _ hw tables_1 i0 i1 s.heap s.heap.size (Nat.le_refl _) p e ha hc hk s m _ below hf ((Spec.applies_iff_loose hf).mp happ).1 ⟨rfl, State.Warmed39.refl s, rfl⟩ trivial
  refine ⟨n, _, h1, h2, h3, hpost _ _ _ _ _ _ ⟨Cond.after_iff.mpr rfl, Cond.after_iff.mpr (eq_i res_at (Term.int_eval (1)) rfl), trivial⟩ ⟨hq.1, hq.2.1, (hq.2.2.sift fun y hy => Or.inr (N y hy)).mono (by decide) (by decide)⟩⟩
theorem main_1_1 : Claimed_1_1 := comes_1 fun _ _ _ _ _ _ h hF => ⟨h.1, hF⟩
theorem main_1_2 : Claimed_1_2 := comes_1 fun _ _ _ _ _ _ h hF => ⟨h.2.1, hF⟩
end Jvm.Pilot.@@N@@
namespace Jvm.Pilot.@@N@@
open Jvm Jvm.ClassFile Sem Op Lib Jvm.Free Jvm.Stand Jvm.Pilot.@@N@@.Jvm.D
/-! MADE BY PROGRAM (witnessworld.py) out of the Statement's table words and the real class files: 9 classes; the members and pool entries that the words name. The judged class is class 1, her method 1. -/
namespace start1
open Jvm.ClassFile
def u (s : String) : CpInfo := .utf8 (stringToUtf16 s)
/-- a pool by its gaps: so many unusable entries, then the entry; so many at the end -/
def gap : Nat → List CpInfo → List CpInfo
  | 0, r => r
  | n + 1, r => .unusable :: gap n r
def poolList (es : List (Nat × CpInfo)) (last : Nat) : List CpInfo := es.foldr (fun e r => gap e.1 (e.2 :: r)) (gap last [])
def pool (es : List (Nat × CpInfo)) (last : Nat) : Array CpInfo := ⟨poolList es last⟩
def fileOf (pool : Array CpInfo) (this : Nat) (attrs : Array Attribute := #[]) (ms : Array MethodInfo := #[]) (fl : Nat := 33) (sup : Nat := 0) (ifs : Array Nat := #[]) (fds : Array FieldInfo := #[]) : ClassFile where
  minorVersion := 0
  majorVersion := 65
  constantPool := pool
  accessFlags := fl
  thisClass := this
  superClass := sup
  interfaces := ifs
  fields := fds
  methods := ms
  attributes := attrs
def plain (name : String) (sup : Option ClassId) : Class where
  name := name
  kind := .ordinary
  loader := none
  accessFlags := 33
  super := sup
  interfaces := #[]
  cf := none
  fields := #[]
  methods := #[]
  instanceTypes := #[]
  staticTypes := #[]
  resolved := #[]
  callSites := []
  init := .initialized
  statics := none
  mirror := none

def pool0 : Array CpInfo := pool [(5, u "<init>"), (0, u "()V"), (1, .class_ 10), (1, u "java/lang/Object")] 113

def k0m0 : Method := { name := "<init>", desc := "()V", sig := { parameters := [], returnType := none }, accessFlags := 1, code := none }
/-- java/lang/Object -/
def k0 : Class := { plain "java/lang/Object" none with
  accessFlags := 33
  interfaces := #[]
  cf := some (fileOf pool0 8 #[] #[{ accessFlags := 1, nameIndex := 5, descriptorIndex := 6, attributes := #[] }] 33 0 #[] #[])
  fields := #[]
  methods := #[k0m0]
  instanceTypes := #[]
  staticTypes := #[]
  resolved := Array.replicate 124 none
  statics := none }

def pool1 : Array CpInfo := pool [(2, .class_ 4), (1, u "java/lang/Object"), (0, u "<init>"), (0, u "()V"), (0, .methodref 8 9), (0, .class_ 10), (0, .nameAndType 11 12), (0, u "com/example/ratatoskr/ratatoskr/mqtt/Packets"), (0, u "fixedFlags"), (0, u "(I)I"), (0, .class_ 14), (0, u "com/example/ratatoskr/ratatoskr/mqtt/PacketsFixedFlagsPinLaw"), (2, u "law"), (0, u "(II)Z")] 5

def k1m0 : Method := { name := "<init>", desc := "()V", sig := { parameters := [], returnType := none }, accessFlags := 2, code := none }
def k1c1 : Code := { maxStack := 4, maxLocals := 7, code := code, exceptionTable := #[], attributes := #[] }
def k1m1 : Method := { name := "law", desc := "(II)Z", sig := { parameters := [.int, .int], returnType := some .boolean }, accessFlags := 9, code := some k1c1 }
/-- com/example/ratatoskr/ratatoskr/mqtt/PacketsFixedFlagsPinLaw -/
def k1 : Class := { plain "com/example/ratatoskr/ratatoskr/mqtt/PacketsFixedFlagsPinLaw" (some 0) with
  accessFlags := 49
  interfaces := #[]
  cf := some (fileOf pool1 13 #[] #[{ accessFlags := 2, nameIndex := 5, descriptorIndex := 6, attributes := #[] }, { accessFlags := 9, nameIndex := 17, descriptorIndex := 18, attributes := #[] }] 49 2 #[] #[])
  fields := #[]
  methods := #[k1m0, k1m1]
  instanceTypes := #[]
  staticTypes := #[]
  resolved := Array.replicate 24 none
  statics := none }

def pool2 : Array CpInfo := pool [(2, .class_ 4), (1, u "java/lang/Object"), (0, u "<init>"), (0, u "()V"), (1, .class_ 10), (1, u "com/example/ratatoskr/ratatoskr/mqtt/Packets"), (56, u "(I)I"), (44, .class_ 113), (0, u "com/example/ratatoskr/ratatoskr/mqtt/Packets$RemainingLength"), (7, u "fixedFlags"), (25, u "CONNECT"), (0, u "I"), (2, u "CONNACK"), (1, u "PUBLISH"), (1, u "PUBACK"), (1, u "PUBREC"), (1, u "PUBREL"), (1, u "PUBCOMP"), (1, u "SUBSCRIBE"), (1, u "SUBACK"), (1, u "UNSUBSCRIBE"), (1, u "UNSUBACK"), (1, u "PINGREQ"), (1, u "PINGRESP"), (1, u "DISCONNECT"), (1, u "MAX_LENGTH_BYTES")] 45

def k2m0 : Method := { name := "<init>", desc := "()V", sig := { parameters := [], returnType := none }, accessFlags := 2, code := none }
def k2c1 : Code := { maxStack := 2, maxLocals := 1, code := prog_57_method_11_code, exceptionTable := #[], attributes := #[] }
def k2m1 : Method := { name := "fixedFlags", desc := "(I)I", sig := { parameters := [.int], returnType := some .int }, accessFlags := 8, code := some k2c1 }
/-- com/example/ratatoskr/ratatoskr/mqtt/Packets -/
def k2 : Class := { plain "com/example/ratatoskr/ratatoskr/mqtt/Packets" (some 0) with
  accessFlags := 32
  interfaces := #[]
  cf := some (fileOf pool2 8 #[.nestMembers #[112]] #[{ accessFlags := 2, nameIndex := 5, descriptorIndex := 6, attributes := #[] }, { accessFlags := 8, nameIndex := 121, descriptorIndex := 67, attributes := #[] }] 32 2 #[] #[{ accessFlags := 24, nameIndex := 147, descriptorIndex := 148, attributes := #[] }, { accessFlags := 24, nameIndex := 151, descriptorIndex := 148, attributes := #[] }, { accessFlags := 24, nameIndex := 153, descriptorIndex := 148, attributes := #[] }, { accessFlags := 24, nameIndex := 155, descriptorIndex := 148, attributes := #[] }, { accessFlags := 24, nameIndex := 157, descriptorIndex := 148, attributes := #[] }, { accessFlags := 24, nameIndex := 159, descriptorIndex := 148, attributes := #[] }, { accessFlags := 24, nameIndex := 161, descriptorIndex := 148, attributes := #[] }, { accessFlags := 24, nameIndex := 163, descriptorIndex := 148, attributes := #[] }, { accessFlags := 24, nameIndex := 165, descriptorIndex := 148, attributes := #[] }, { accessFlags := 24, nameIndex := 167, descriptorIndex := 148, attributes := #[] }, { accessFlags := 24, nameIndex := 169, descriptorIndex := 148, attributes := #[] }, { accessFlags := 24, nameIndex := 171, descriptorIndex := 148, attributes := #[] }, { accessFlags := 24, nameIndex := 173, descriptorIndex := 148, attributes := #[] }, { accessFlags := 24, nameIndex := 175, descriptorIndex := 148, attributes := #[] }, { accessFlags := 26, nameIndex := 177, descriptorIndex := 148, attributes := #[] }])
  fields := #[{ name := "CONNECT", type := .int, accessFlags := 24, slot := 0, constantValue := 0 }, { name := "CONNACK", type := .int, accessFlags := 24, slot := 1, constantValue := 0 }, { name := "PUBLISH", type := .int, accessFlags := 24, slot := 2, constantValue := 0 }, { name := "PUBACK", type := .int, accessFlags := 24, slot := 3, constantValue := 0 }, { name := "PUBREC", type := .int, accessFlags := 24, slot := 4, constantValue := 0 }, { name := "PUBREL", type := .int, accessFlags := 24, slot := 5, constantValue := 0 }, { name := "PUBCOMP", type := .int, accessFlags := 24, slot := 6, constantValue := 0 }, { name := "SUBSCRIBE", type := .int, accessFlags := 24, slot := 7, constantValue := 0 }, { name := "SUBACK", type := .int, accessFlags := 24, slot := 8, constantValue := 0 }, { name := "UNSUBSCRIBE", type := .int, accessFlags := 24, slot := 9, constantValue := 0 }, { name := "UNSUBACK", type := .int, accessFlags := 24, slot := 10, constantValue := 0 }, { name := "PINGREQ", type := .int, accessFlags := 24, slot := 11, constantValue := 0 }, { name := "PINGRESP", type := .int, accessFlags := 24, slot := 12, constantValue := 0 }, { name := "DISCONNECT", type := .int, accessFlags := 24, slot := 13, constantValue := 0 }, { name := "MAX_LENGTH_BYTES", type := .int, accessFlags := 26, slot := 14, constantValue := 0 }]
  methods := #[k2m0, k2m1]
  instanceTypes := #[]
  staticTypes := #[.int, .int, .int, .int, .int, .int, .int, .int, .int, .int, .int, .int, .int, .int, .int]
  resolved := Array.replicate 223 none
  statics := none }

def pool3 : Array CpInfo := pool [(1, u "java/lang/Cloneable"), (0, .class_ 1), (0, u "java/lang/Object"), (0, .class_ 3)] 3

/-- java/lang/Cloneable -/
def k3 : Class := { plain "java/lang/Cloneable" (some 0) with
  accessFlags := 1537
  interfaces := #[]
  cf := some (fileOf pool3 2 #[] #[] 1537 4 #[] #[])
  fields := #[]
  methods := #[]
  instanceTypes := #[]
  staticTypes := #[]
  resolved := Array.replicate 8 none
  statics := none }

def pool4 : Array CpInfo := pool [(1, u "java/io/Serializable"), (0, .class_ 1), (0, u "java/lang/Object"), (0, .class_ 3)] 3

/-- java/io/Serializable -/
def k4 : Class := { plain "java/io/Serializable" (some 0) with
  accessFlags := 1537
  interfaces := #[]
  cf := some (fileOf pool4 2 #[] #[] 1537 4 #[] #[])
  fields := #[]
  methods := #[]
  instanceTypes := #[]
  staticTypes := #[]
  resolved := Array.replicate 8 none
  statics := none }

/-- the primitive byte -/
def k5 : Class := { plain "byte" none with kind := .primitive 'B', accessFlags := 0x411 }
/-- [B -/
def k6 : Class := { plain "[B" (some 0) with kind := .array 5 .byte, interfaces := #[3, 4], accessFlags := 1041 }

/-- the primitive int -/
def k7 : Class := { plain "int" none with kind := .primitive 'I', accessFlags := 0x411 }
/-- [I -/
def k8 : Class := { plain "[I" (some 0) with kind := .array 7 .int, interfaces := #[3, 4], accessFlags := 1041 }

def heap : Heap := #[]
def classes : Array Class := #[k0, k1, k2, k3, k4, k5, k6, k7, k8]
def interned : List (Array UInt16 × Addr) := []
def slotsUsed : Nat := 0
def theMethod : MethodId := ⟨1, 1⟩
def args0 : Array Value := #[.int 3, .int 1]
def aboutOver (below : List Frame) : State where
  vm := { classes := classes, interned := interned.toArray }
  heap := heap
  slotsUsed := slotsUsed
  threads := #[{ frames := .invoking theMethod args0 :: below }]
def below0 : List Frame := [.native { method := ⟨0, 0⟩, args := #[] }]
def about1 : State := aboutOver below0
def p0 : Program := .bare "" "" ""
def e0 : Env := launch0.env 0 0 0
theorem w_frames : about1.frames = Frame.invoking theMethod args0 :: below0 := rfl
set_option maxRecDepth 65536 in
theorem w_args : argsFit about1.vm theMethod args0 = true := by decide +kernel
set_option maxRecDepth 65536 in
theorem w_heap : heapFits about1 = true := by decide +kernel
set_option maxRecDepth 65536 in
theorem w_runnable : about1.curStatus? = some .runnable := by decide +kernel
set_option maxRecDepth 65536 in
theorem w_alone : about1.alone = true := by decide +kernel
set_option maxRecDepth 65536 in
theorem w_named : about1.methodNamed? x = some theMethod := by decide +kernel
set_option maxRecDepth 65536 in
theorem w_hears : about1.hears theMethod below0 = true := by decide +kernel
set_option maxRecDepth 65536 in
theorem w_ripe : about1.ripe theMethod args0 below0 = true := by decide +kernel
theorem w_running : about1.status = .running := rfl
set_option maxRecDepth 65536 in
theorem w_room : about1.hasRoom e0.platform room_1 = true :=
  launch0.hasRoom_least _ room_1 (by decide +kernel) (by decide +kernel) (by decide +kernel) (by decide +kernel) (by decide +kernel) (by decide +kernel)
theorem allAtoms_all (ts : List Jvm.Cond) (a : Array Jvm.Value) (st : Jvm.State) : (allAtoms ts).before a st = ts.all (fun c => c.before a st) := by
  induction ts with
  | nil => rfl
  | cons c t ih =>
    show (Jvm.Cond.and c (allAtoms t)).before a st = _
    rw [Jvm.Cond.before_and, ih, List.all_cons]
def words1 : List Jvm.Cond := Jvm.Cond.code x code maxLocals ret :: tables_1
/-- a 'code' word, met by the world's own term for the bytes: nothing is compared byte by byte -/
theorem code_word {y : MethodName} {bytes : ByteArray} {mx : Nat} {rt : Option FieldType} {a : Array Value} {s : State} {m : MethodId} {meth : Method} {c : Code} (h1 : s.methodNamed? y = some m) (h2 : s.vm.method? m = some meth) (h3 : meth.code = some c) (h4 : c.code = bytes)
    (h5 : (c.maxLocals == mx && c.exceptionTable.isEmpty && decide (c.maxStack ≤ mostOperands) && decide (meth.sig.returnType = rt) && !meth.locks && decide (parseMethodDescriptor y.desc = some meth.sig)) = true) : (Jvm.Cond.code y bytes mx rt).before a s = true := by
  simp only [Bool.and_eq_true, beq_iff_eq, Bool.not_eq_true', decide_eq_true_eq] at h5
  obtain ⟨⟨⟨⟨⟨g1, g2⟩, g3⟩, g4⟩, g5⟩, g6⟩ := h5
  simp [Cond.before, Cond.holds, Cond.value, h1, h2, h3, h4, g1, g2, g3, g4, g5, g6]
def isCode : Jvm.Cond → Bool
  | .code _ _ _ _ => true
  | _ => false
theorem all_split {L : List Jvm.Cond} {P : Jvm.Cond → Bool} (h1 : L.all (fun c => isCode c || P c) = true) (h2 : ∀ c ∈ L.filter isCode, P c = true) : L.all P = true := by
  refine List.all_eq_true.mpr fun c hc => ?_
  have h := List.all_eq_true.mp h1 c hc
  rcases Bool.eq_false_or_eq_true (isCode c) with hi | hi
  · exact h2 c (List.mem_filter.mpr ⟨hc, hi⟩)
  · simpa [hi] using h
set_option maxRecDepth 65536 in
theorem w_c0 : (Jvm.Cond.code x code maxLocals ret).before args0 about1 = true := code_word (m := ⟨1, 1⟩) (meth := k1m1) (c := k1c1) (by decide +kernel) rfl rfl rfl (by decide +kernel)
set_option maxRecDepth 65536 in
theorem w_c1 : (Jvm.Cond.code ({ cls := "com/example/ratatoskr/ratatoskr/mqtt/Packets", name := "fixedFlags", desc := "(I)I" } : Jvm.MethodName) prog_57_method_11_code (1 : Nat) (Option.some Jvm.ClassFile.FieldType.int)).before args0 about1 = true := code_word (m := ⟨2, 1⟩) (meth := k2m1) (c := k2c1) (by decide +kernel) rfl rfl rfl (by decide +kernel)
def codes1 : List Jvm.Cond := [Jvm.Cond.code x code maxLocals ret, Jvm.Cond.code ({ cls := "com/example/ratatoskr/ratatoskr/mqtt/Packets", name := "fixedFlags", desc := "(I)I" } : Jvm.MethodName) prog_57_method_11_code (1 : Nat) (Option.some Jvm.ClassFile.FieldType.int)]
set_option maxRecDepth 65536 in
theorem codes_eq : words1.filter isCode = codes1 := rfl
theorem w_codes : ∀ c ∈ words1.filter isCode, c.before args0 about1 = true := by
  rw [codes_eq]
  intro c hc
  simp only [codes1, List.mem_cons, List.not_mem_nil, or_false] at hc
  rcases hc with rfl | rfl
  · exact w_c0
  · exact w_c1
set_option maxRecDepth 65536 in
theorem w_t1 : words1.all (fun c => isCode c || c.before args0 about1) = true := by decide +kernel
theorem w_tables : (allAtoms (Jvm.Cond.code x code maxLocals ret :: tables_1)).before args0 about1 = true := by
  rw [allAtoms_all]
  show words1.all (fun c => c.before args0 about1) = true
  refine all_split ?_ w_codes
  rw [w_t1]
set_option maxRecDepth 65536 in
theorem w_case : (Jvm.Cond.and given_1 narrow_1).before args0 about1 = true := by decide +kernel
theorem w_applies : (headSpec (Jvm.Cond.code x code maxLocals ret :: tables_1) room_1).applies x e0.platform about1 = true :=
  (Spec.applies_iff w_frames).mpr ⟨w_running, w_runnable, w_alone, w_named, w_hears, w_ripe, w_room, w_tables⟩
theorem atStart : AtStart classFile x code maxLocals ret World_1 tables_1 room_1 Calls_1 rest_1 Pre_1 launch0 p0 e0 about1 theMethod args0 below0 :=
  ⟨lists_1, trivial, launch0.admits_env _ _ _, launch0.least_env, fairChoices_fair.cas, fairChoices_fair.clock, w_frames, w_args, w_heap, w_applies, trivial, trivial, w_case⟩
end start1
theorem witness_1 : WitnessClaimed_1 := ⟨start1.p0, start1.e0, start1.about1, start1.theMethod, start1.args0, start1.below0, start1.atStart⟩
end Jvm.Pilot.@@N@@
