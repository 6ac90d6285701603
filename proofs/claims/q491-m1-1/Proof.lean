import JvmDerived
import JvmDerived.Pilot.@@N@@Statement
import JvmDerived.Pilot.@@N@@Code
set_option linter.unusedVariables false
set_option linter.unusedSimpArgs false
namespace Jvm.RoadKit
open Sem ClassFile Op Lib Jvm.Stand Jvm.Free Jvm.LawKit
section New
variable {p : Program} {l : Launch} {e : Env} {R : Room} {s : State} {m : MethodId} {args : Array Value} {below : List Frame} {meth : Method} {c : Code} {T : State} {locs : List Loc} {cells slots : Nat}
theorem retI (X : Stand p l e R s m args below meth c T locs cells slots) (hx : p.tables.exec = Jvm.exec) {pc : Nat} {Ls : Array Slot} {z : Int32} {rest : List Value} (hret : meth.sig.returnType = some .int) (hd : decode c.code pc = .ok (.ireturn, 1)) {fs : List Frame}
    (hl : ∀ (f : JFrame) (acts : List Action), f.method = m → f.locked = none → f.entered = [] → (doReturn e (T.setTop f) acts (some (.int z))).1 = T.setFrames fs) : Steps p.tables e below (T.setTop (mkF m pc Ls (.int z :: rest))) (T.setFrames fs) := by
  have hm' : T.vm.method? m = some meth := X.method'
  have hn : narrow .int (.int z) = .int z := rfl
  show Steps p.tables e below (T.setTop { method := m, pc := pc, locals := Ls, stack := _ :: rest, locked := none }) _
  jvm_step X.here [X.here.top, hx, hd, hm', hret, hn]
  first | (intro acts; rw [hl _ acts rfl rfl rfl]) | rw [hl _ _ rfl rfl rfl]
  exact Steps.refl _
theorem retJ (X : Stand p l e R s m args below meth c T locs cells slots) (hx : p.tables.exec = Jvm.exec) {pc : Nat} {Ls : Array Slot} {z : Int64} {rest : List Value} (hret : meth.sig.returnType = some .long) (hd : decode c.code pc = .ok (.lreturn, 1)) {fs : List Frame}
    (hl : ∀ (f : JFrame) (acts : List Action), f.method = m → f.locked = none → f.entered = [] → (doReturn e (T.setTop f) acts (some (.long z))).1 = T.setFrames fs) : Steps p.tables e below (T.setTop (mkF m pc Ls (.long z :: rest))) (T.setFrames fs) := by
  have hm' : T.vm.method? m = some meth := X.method'
  have hn : narrow .long (.long z) = .long z := rfl
  show Steps p.tables e below (T.setTop { method := m, pc := pc, locals := Ls, stack := _ :: rest, locked := none }) _
  jvm_step X.here [X.here.top, hx, hd, hm', hret, hn]
  first | (intro acts; rw [hl _ acts rfl rfl rfl]) | rw [hl _ _ rfl rfl rfl]
  exact Steps.refl _
end New
end Jvm.RoadKit
namespace Jvm.Pilot.@@N@@
open Jvm Jvm.ClassFile Sem Op Lib Jvm.Free Jvm.Stand Jvm.LawKit Jvm.RoadKit Bundle Jvm.Pilot.@@N@@.Jvm.D
def QV (w : Option Value) (h0 : Heap) (n0 : Nat) (v : Option Value) (h : Heap) (L : List Loc) : Prop := v = w ∧ Fr n0 L ∧ h = h0
theorem d1_0 : decode jdk_29_method_66_code 0 = .ok (.lload_n 0, 1) := by decide +kernel
theorem d1_1 : decode jdk_29_method_66_code 1 = .ok (.lload_n 2, 1) := by decide +kernel
theorem d1_2 : decode jdk_29_method_66_code 2 = .ok (.lcmp, 1) := by decide +kernel
theorem d1_3 : decode jdk_29_method_66_code 3 = .ok (.ifCond .lt 7, 3) := by decide +kernel
theorem d1_10 : decode jdk_29_method_66_code 10 = .ok (.lload_n 2, 1) := by decide +kernel
theorem d1_11 : decode jdk_29_method_66_code 11 = .ok (.lreturn, 1) := by decide +kernel
theorem ef_1 (m : MethodId) (x0 : Int64) (x1 : Int64) : entryFrame m #[(.long x0), (.long x1)] 4 = mkF m 0 #[.val (.long x0), .second, .val (.long x1), .second] [] := by first | (simp [entryFrame, mkF, argsToLocals, Value.category]; done) | rfl
theorem d1_6 : decode jdk_29_method_66_code 6 = .ok (.lload_n 0, 1) := by decide +kernel
theorem d1_7 : decode jdk_29_method_66_code 7 = .ok (.goto 4, 3) := by decide +kernel
set_option maxRecDepth 65536 in
set_option maxHeartbeats 40000000 in
theorem rm1_t (l : Launch) (Z : State) (a0 : Array Value) (hw : ∀ d ∈ tables_1, d.before a0 Z = true) (ws : List Jvm.Cond) (q1 : Int64) (q2 : Int64) (h0 : Heap) (n0 : Nat) (Z0 : n0 ≤ h0.size) (hc3 : (lcmpW q1 q2) < (0 : Int32)) :
    MetFree l (⟨"java/lang/Math", "max", "(JJ)J"⟩ : MethodName) (head1 (Jvm.Cond.code (⟨"java/lang/Math", "max", "(JJ)J"⟩ : MethodName) jdk_29_method_66_code 4 (some .long) :: ws) ({ frames := 0, cells := 0, slots := 0, locals := 0 } : Room)) (fun a U => a = #[(.long q1), (.long q2)] ∧ Z.Warmed39 U.vm ∧ U.heap = h0) (fun _ _ _ _ _ => True) (fun _ U o U' => ∃ v L, o = .returned v ∧ QV (some (.long q2)) h0 n0 v U'.heap L ∧ FrameEnd U o U' L ({ frames := 0, cells := 0, slots := 0, locals := 0 } : Room).cells ({ frames := 0, cells := 0, slots := 0, locals := 0 } : Room).slots) := by
  refine MetFree.of_bodySF (Jvm.Free.JP.mathPlain rfl (by decide +kernel)) hisR ?_
  intro p e s m args below meth c s₁ Bd hml0 hP hK
  obtain ⟨rfl, hZ, hh⟩ := hP
  have hx := Bd.exec
  have hby := Bd.bytes
  have hml : c.maxLocals = 4 := hml0
  have hown : s.vm.findClass "java/lang/Math" = some m.cls := findClass_of_methodNamed Bd.named
  have hnm := (name_of_methodNamed Bd.named Bd.method).1
  have X0 : Stand p l e ({ frames := 0, cells := 0, slots := 0, locals := 0 } : Room) s m #[(.long q1), (.long q2)] below meth c s₁ [] 0 0 := Stand.of_body Bd
  have e0 : s₁.heap = h0 := by rw [← hh, Bd.state]; rfl
  have N0 := Fr.nil n0
  have pre0 : ∀ t, Steps p.tables e below (s₁.setTop (mkF m 0 #[.val (.long q1), .second, .val (.long q2), .second] [])) t → Steps p.tables e below (s₁.setTop (entryFrame m #[(.long q1), (.long q2)] 4)) t := fun t k => castTop (ef_1 m q1 q2) k

  obtain ⟨fs, hr, hrun, hended, hW, hsame⟩ := X0.leave (v := some (.long q2)) (fun h => by rw [Bd.returns] at h; cases h)
  refine ⟨_, _, pre0 _ ?_, hrun, hended, _, _, rfl, ?_, ⟨_, rfl⟩, hW, hsame.mono (by decide) (by decide)⟩
  · show Steps p.tables e below (s₁.setTop (mkF m 0 #[.val (.long q1), .second, .val (.long q2), .second] [])) _
    refine XS.lloadN X0.here hx rfl (hb hby d1_0) rfl ?_
    show Steps p.tables e below (s₁.setTop (mkF m 1 #[.val (.long q1), .second, .val (.long q2), .second] [(.long q1)])) _
    refine XS.lloadN X0.here hx rfl (hb hby d1_1) rfl ?_
    show Steps p.tables e below (s₁.setTop (mkF m 2 #[.val (.long q1), .second, .val (.long q2), .second] [(.long q2), (.long q1)])) _
    refine XS.lcmp X0.here hx rfl (hb hby d1_2) rfl ?_
    show Steps p.tables e below (s₁.setTop (mkF m 3 #[.val (.long q1), .second, .val (.long q2), .second] [(.int (lcmpW q1 q2))])) _
    refine XS.ifYes X0.here hx rfl (pc0 := 3) (pc' := 10) rfl (hb hby d1_3) rfl ((if0 _ _).trans (tlt hc3).1) (by decide) (by decide) ?_
    show Steps p.tables e below (s₁.setTop (mkF m 10 #[.val (.long q1), .second, .val (.long q2), .second] [])) _
    refine XS.lloadN X0.here hx rfl (hb hby d1_10) rfl ?_
    show Steps p.tables e below (s₁.setTop (mkF m 11 #[.val (.long q1), .second, .val (.long q2), .second] [(.long q2)])) _
    exact retJ X0 hx Bd.returns (hb hby d1_11) hr
  · show QV (some (.long q2)) h0 n0 _ s₁.heap _
    rw [e0]
    exact ⟨rfl, N0, rfl⟩
set_option maxRecDepth 65536 in
set_option maxHeartbeats 40000000 in
theorem rm1_f (l : Launch) (Z : State) (a0 : Array Value) (hw : ∀ d ∈ tables_1, d.before a0 Z = true) (ws : List Jvm.Cond) (q1 : Int64) (q2 : Int64) (h0 : Heap) (n0 : Nat) (Z0 : n0 ≤ h0.size) (hc3 : ¬ ((lcmpW q1 q2) < (0 : Int32))) :
    MetFree l (⟨"java/lang/Math", "max", "(JJ)J"⟩ : MethodName) (head1 (Jvm.Cond.code (⟨"java/lang/Math", "max", "(JJ)J"⟩ : MethodName) jdk_29_method_66_code 4 (some .long) :: ws) ({ frames := 0, cells := 0, slots := 0, locals := 0 } : Room)) (fun a U => a = #[(.long q1), (.long q2)] ∧ Z.Warmed39 U.vm ∧ U.heap = h0) (fun _ _ _ _ _ => True) (fun _ U o U' => ∃ v L, o = .returned v ∧ QV (some (.long q1)) h0 n0 v U'.heap L ∧ FrameEnd U o U' L ({ frames := 0, cells := 0, slots := 0, locals := 0 } : Room).cells ({ frames := 0, cells := 0, slots := 0, locals := 0 } : Room).slots) := by
  refine MetFree.of_bodySF (Jvm.Free.JP.mathPlain rfl (by decide +kernel)) hisR ?_
  intro p e s m args below meth c s₁ Bd hml0 hP hK
  obtain ⟨rfl, hZ, hh⟩ := hP
  have hx := Bd.exec
  have hby := Bd.bytes
  have hml : c.maxLocals = 4 := hml0
  have hown : s.vm.findClass "java/lang/Math" = some m.cls := findClass_of_methodNamed Bd.named
  have hnm := (name_of_methodNamed Bd.named Bd.method).1
  have X0 : Stand p l e ({ frames := 0, cells := 0, slots := 0, locals := 0 } : Room) s m #[(.long q1), (.long q2)] below meth c s₁ [] 0 0 := Stand.of_body Bd
  have e0 : s₁.heap = h0 := by rw [← hh, Bd.state]; rfl
  have N0 := Fr.nil n0
  have pre0 : ∀ t, Steps p.tables e below (s₁.setTop (mkF m 0 #[.val (.long q1), .second, .val (.long q2), .second] [])) t → Steps p.tables e below (s₁.setTop (entryFrame m #[(.long q1), (.long q2)] 4)) t := fun t k => castTop (ef_1 m q1 q2) k

  obtain ⟨fs, hr, hrun, hended, hW, hsame⟩ := X0.leave (v := some (.long q1)) (fun h => by rw [Bd.returns] at h; cases h)
  refine ⟨_, _, pre0 _ ?_, hrun, hended, _, _, rfl, ?_, ⟨_, rfl⟩, hW, hsame.mono (by decide) (by decide)⟩
  · show Steps p.tables e below (s₁.setTop (mkF m 0 #[.val (.long q1), .second, .val (.long q2), .second] [])) _
    refine XS.lloadN X0.here hx rfl (hb hby d1_0) rfl ?_
    show Steps p.tables e below (s₁.setTop (mkF m 1 #[.val (.long q1), .second, .val (.long q2), .second] [(.long q1)])) _
    refine XS.lloadN X0.here hx rfl (hb hby d1_1) rfl ?_
    show Steps p.tables e below (s₁.setTop (mkF m 2 #[.val (.long q1), .second, .val (.long q2), .second] [(.long q2), (.long q1)])) _
    refine XS.lcmp X0.here hx rfl (hb hby d1_2) rfl ?_
    show Steps p.tables e below (s₁.setTop (mkF m 3 #[.val (.long q1), .second, .val (.long q2), .second] [(.int (lcmpW q1 q2))])) _
    refine XS.ifNo X0.here hx rfl (hb hby d1_3) rfl ((if0 _ _).trans (flt hc3).1) ?_
    show Steps p.tables e below (s₁.setTop (mkF m 6 #[.val (.long q1), .second, .val (.long q2), .second] [])) _
    refine XS.lloadN X0.here hx rfl (hb hby d1_6) rfl ?_
    show Steps p.tables e below (s₁.setTop (mkF m 7 #[.val (.long q1), .second, .val (.long q2), .second] [(.long q1)])) _
    refine XS.goto X0.here hx rfl (pc0 := 7) (pc' := 11) rfl (hb hby d1_7) (by decide) (by decide) ?_
    show Steps p.tables e below (s₁.setTop (mkF m 11 #[.val (.long q1), .second, .val (.long q2), .second] [(.long q1)])) _
    exact retJ X0 hx Bd.returns (hb hby d1_11) hr
  · show QV (some (.long q1)) h0 n0 _ s₁.heap _
    rw [e0]
    exact ⟨rfl, N0, rfl⟩
def own_lmax (q1 : Int64) (q2 : Int64) : Int64 := (if (lcmpW q1 q2) < (0 : Int32) then q2 else q1)
theorem rm1 (l : Launch) (Z : State) (a0 : Array Value) (hw : ∀ d ∈ tables_1, d.before a0 Z = true) (ws : List Jvm.Cond) (q1 : Int64) (q2 : Int64) (h0 : Heap) (n0 : Nat) (Z0 : n0 ≤ h0.size) :
    MetFree l (⟨"java/lang/Math", "max", "(JJ)J"⟩ : MethodName) (head1 (Jvm.Cond.code (⟨"java/lang/Math", "max", "(JJ)J"⟩ : MethodName) jdk_29_method_66_code 4 (some .long) :: ws) ({ frames := 0, cells := 0, slots := 0, locals := 0 } : Room)) (fun a U => a = #[(.long q1), (.long q2)] ∧ Z.Warmed39 U.vm ∧ U.heap = h0) (fun _ _ _ _ _ => True) (fun _ U o U' => ∃ v L, o = .returned v ∧ QV (some (.long (own_lmax q1 q2))) h0 n0 v U'.heap L ∧ FrameEnd U o U' L ({ frames := 0, cells := 0, slots := 0, locals := 0 } : Room).cells ({ frames := 0, cells := 0, slots := 0, locals := 0 } : Room).slots) := by
  by_cases hc3 : (lcmpW q1 q2) < (0 : Int32)
  · have he : own_lmax q1 q2 = q2 := by unfold own_lmax; rw [if_pos hc3]
    rw [he]; exact rm1_t l Z a0 hw ws q1 q2 h0 n0 Z0 hc3
  · have he : own_lmax q1 q2 = q1 := by unfold own_lmax; rw [if_neg hc3]
    rw [he]; exact rm1_f l Z a0 hw ws q1 q2 h0 n0 Z0 hc3
theorem d2_0 : decode jdk_29_method_70_code 0 = .ok (.lload_n 0, 1) := by decide +kernel
theorem d2_1 : decode jdk_29_method_70_code 1 = .ok (.lload_n 2, 1) := by decide +kernel
theorem d2_2 : decode jdk_29_method_70_code 2 = .ok (.lcmp, 1) := by decide +kernel
theorem d2_3 : decode jdk_29_method_70_code 3 = .ok (.ifCond .gt 7, 3) := by decide +kernel
theorem d2_10 : decode jdk_29_method_70_code 10 = .ok (.lload_n 2, 1) := by decide +kernel
theorem d2_11 : decode jdk_29_method_70_code 11 = .ok (.lreturn, 1) := by decide +kernel
theorem ef_2 (m : MethodId) (x0 : Int64) (x1 : Int64) : entryFrame m #[(.long x0), (.long x1)] 4 = mkF m 0 #[.val (.long x0), .second, .val (.long x1), .second] [] := by first | (simp [entryFrame, mkF, argsToLocals, Value.category]; done) | rfl
theorem d2_6 : decode jdk_29_method_70_code 6 = .ok (.lload_n 0, 1) := by decide +kernel
theorem d2_7 : decode jdk_29_method_70_code 7 = .ok (.goto 4, 3) := by decide +kernel
set_option maxRecDepth 65536 in
set_option maxHeartbeats 40000000 in
theorem rm2_t (l : Launch) (Z : State) (a0 : Array Value) (hw : ∀ d ∈ tables_1, d.before a0 Z = true) (ws : List Jvm.Cond) (q1 : Int64) (q2 : Int64) (h0 : Heap) (n0 : Nat) (Z0 : n0 ≤ h0.size) (hc3 : (0 : Int32) < (lcmpW q1 q2)) :
    MetFree l (⟨"java/lang/Math", "min", "(JJ)J"⟩ : MethodName) (head1 (Jvm.Cond.code (⟨"java/lang/Math", "min", "(JJ)J"⟩ : MethodName) jdk_29_method_70_code 4 (some .long) :: ws) ({ frames := 0, cells := 0, slots := 0, locals := 0 } : Room)) (fun a U => a = #[(.long q1), (.long q2)] ∧ Z.Warmed39 U.vm ∧ U.heap = h0) (fun _ _ _ _ _ => True) (fun _ U o U' => ∃ v L, o = .returned v ∧ QV (some (.long q2)) h0 n0 v U'.heap L ∧ FrameEnd U o U' L ({ frames := 0, cells := 0, slots := 0, locals := 0 } : Room).cells ({ frames := 0, cells := 0, slots := 0, locals := 0 } : Room).slots) := by
  refine MetFree.of_bodySF (Jvm.Free.JP.mathPlain rfl (by decide +kernel)) hisR ?_
  intro p e s m args below meth c s₁ Bd hml0 hP hK
  obtain ⟨rfl, hZ, hh⟩ := hP
  have hx := Bd.exec
  have hby := Bd.bytes
  have hml : c.maxLocals = 4 := hml0
  have hown : s.vm.findClass "java/lang/Math" = some m.cls := findClass_of_methodNamed Bd.named
  have hnm := (name_of_methodNamed Bd.named Bd.method).1
  have X0 : Stand p l e ({ frames := 0, cells := 0, slots := 0, locals := 0 } : Room) s m #[(.long q1), (.long q2)] below meth c s₁ [] 0 0 := Stand.of_body Bd
  have e0 : s₁.heap = h0 := by rw [← hh, Bd.state]; rfl
  have N0 := Fr.nil n0
  have pre0 : ∀ t, Steps p.tables e below (s₁.setTop (mkF m 0 #[.val (.long q1), .second, .val (.long q2), .second] [])) t → Steps p.tables e below (s₁.setTop (entryFrame m #[(.long q1), (.long q2)] 4)) t := fun t k => castTop (ef_2 m q1 q2) k

  obtain ⟨fs, hr, hrun, hended, hW, hsame⟩ := X0.leave (v := some (.long q2)) (fun h => by rw [Bd.returns] at h; cases h)
  refine ⟨_, _, pre0 _ ?_, hrun, hended, _, _, rfl, ?_, ⟨_, rfl⟩, hW, hsame.mono (by decide) (by decide)⟩
  · show Steps p.tables e below (s₁.setTop (mkF m 0 #[.val (.long q1), .second, .val (.long q2), .second] [])) _
    refine XS.lloadN X0.here hx rfl (hb hby d2_0) rfl ?_
    show Steps p.tables e below (s₁.setTop (mkF m 1 #[.val (.long q1), .second, .val (.long q2), .second] [(.long q1)])) _
    refine XS.lloadN X0.here hx rfl (hb hby d2_1) rfl ?_
    show Steps p.tables e below (s₁.setTop (mkF m 2 #[.val (.long q1), .second, .val (.long q2), .second] [(.long q2), (.long q1)])) _
    refine XS.lcmp X0.here hx rfl (hb hby d2_2) rfl ?_
    show Steps p.tables e below (s₁.setTop (mkF m 3 #[.val (.long q1), .second, .val (.long q2), .second] [(.int (lcmpW q1 q2))])) _
    refine XS.ifYes X0.here hx rfl (pc0 := 3) (pc' := 10) rfl (hb hby d2_3) rfl ((if0 _ _).trans (tlt hc3).2.2.1) (by decide) (by decide) ?_
    show Steps p.tables e below (s₁.setTop (mkF m 10 #[.val (.long q1), .second, .val (.long q2), .second] [])) _
    refine XS.lloadN X0.here hx rfl (hb hby d2_10) rfl ?_
    show Steps p.tables e below (s₁.setTop (mkF m 11 #[.val (.long q1), .second, .val (.long q2), .second] [(.long q2)])) _
    exact retJ X0 hx Bd.returns (hb hby d2_11) hr
  · show QV (some (.long q2)) h0 n0 _ s₁.heap _
    rw [e0]
    exact ⟨rfl, N0, rfl⟩
set_option maxRecDepth 65536 in
set_option maxHeartbeats 40000000 in
theorem rm2_f (l : Launch) (Z : State) (a0 : Array Value) (hw : ∀ d ∈ tables_1, d.before a0 Z = true) (ws : List Jvm.Cond) (q1 : Int64) (q2 : Int64) (h0 : Heap) (n0 : Nat) (Z0 : n0 ≤ h0.size) (hc3 : ¬ ((0 : Int32) < (lcmpW q1 q2))) :
    MetFree l (⟨"java/lang/Math", "min", "(JJ)J"⟩ : MethodName) (head1 (Jvm.Cond.code (⟨"java/lang/Math", "min", "(JJ)J"⟩ : MethodName) jdk_29_method_70_code 4 (some .long) :: ws) ({ frames := 0, cells := 0, slots := 0, locals := 0 } : Room)) (fun a U => a = #[(.long q1), (.long q2)] ∧ Z.Warmed39 U.vm ∧ U.heap = h0) (fun _ _ _ _ _ => True) (fun _ U o U' => ∃ v L, o = .returned v ∧ QV (some (.long q1)) h0 n0 v U'.heap L ∧ FrameEnd U o U' L ({ frames := 0, cells := 0, slots := 0, locals := 0 } : Room).cells ({ frames := 0, cells := 0, slots := 0, locals := 0 } : Room).slots) := by
  refine MetFree.of_bodySF (Jvm.Free.JP.mathPlain rfl (by decide +kernel)) hisR ?_
  intro p e s m args below meth c s₁ Bd hml0 hP hK
  obtain ⟨rfl, hZ, hh⟩ := hP
  have hx := Bd.exec
  have hby := Bd.bytes
  have hml : c.maxLocals = 4 := hml0
  have hown : s.vm.findClass "java/lang/Math" = some m.cls := findClass_of_methodNamed Bd.named
  have hnm := (name_of_methodNamed Bd.named Bd.method).1
  have X0 : Stand p l e ({ frames := 0, cells := 0, slots := 0, locals := 0 } : Room) s m #[(.long q1), (.long q2)] below meth c s₁ [] 0 0 := Stand.of_body Bd
  have e0 : s₁.heap = h0 := by rw [← hh, Bd.state]; rfl
  have N0 := Fr.nil n0
  have pre0 : ∀ t, Steps p.tables e below (s₁.setTop (mkF m 0 #[.val (.long q1), .second, .val (.long q2), .second] [])) t → Steps p.tables e below (s₁.setTop (entryFrame m #[(.long q1), (.long q2)] 4)) t := fun t k => castTop (ef_2 m q1 q2) k

  obtain ⟨fs, hr, hrun, hended, hW, hsame⟩ := X0.leave (v := some (.long q1)) (fun h => by rw [Bd.returns] at h; cases h)
  refine ⟨_, _, pre0 _ ?_, hrun, hended, _, _, rfl, ?_, ⟨_, rfl⟩, hW, hsame.mono (by decide) (by decide)⟩
  · show Steps p.tables e below (s₁.setTop (mkF m 0 #[.val (.long q1), .second, .val (.long q2), .second] [])) _
    refine XS.lloadN X0.here hx rfl (hb hby d2_0) rfl ?_
    show Steps p.tables e below (s₁.setTop (mkF m 1 #[.val (.long q1), .second, .val (.long q2), .second] [(.long q1)])) _
    refine XS.lloadN X0.here hx rfl (hb hby d2_1) rfl ?_
    show Steps p.tables e below (s₁.setTop (mkF m 2 #[.val (.long q1), .second, .val (.long q2), .second] [(.long q2), (.long q1)])) _
    refine XS.lcmp X0.here hx rfl (hb hby d2_2) rfl ?_
    show Steps p.tables e below (s₁.setTop (mkF m 3 #[.val (.long q1), .second, .val (.long q2), .second] [(.int (lcmpW q1 q2))])) _
    refine XS.ifNo X0.here hx rfl (hb hby d2_3) rfl ((if0 _ _).trans (flt hc3).2.2.1) ?_
    show Steps p.tables e below (s₁.setTop (mkF m 6 #[.val (.long q1), .second, .val (.long q2), .second] [])) _
    refine XS.lloadN X0.here hx rfl (hb hby d2_6) rfl ?_
    show Steps p.tables e below (s₁.setTop (mkF m 7 #[.val (.long q1), .second, .val (.long q2), .second] [(.long q1)])) _
    refine XS.goto X0.here hx rfl (pc0 := 7) (pc' := 11) rfl (hb hby d2_7) (by decide) (by decide) ?_
    show Steps p.tables e below (s₁.setTop (mkF m 11 #[.val (.long q1), .second, .val (.long q2), .second] [(.long q1)])) _
    exact retJ X0 hx Bd.returns (hb hby d2_11) hr
  · show QV (some (.long q1)) h0 n0 _ s₁.heap _
    rw [e0]
    exact ⟨rfl, N0, rfl⟩
def own_lmin (q1 : Int64) (q2 : Int64) : Int64 := (if (0 : Int32) < (lcmpW q1 q2) then q2 else q1)
theorem rm2 (l : Launch) (Z : State) (a0 : Array Value) (hw : ∀ d ∈ tables_1, d.before a0 Z = true) (ws : List Jvm.Cond) (q1 : Int64) (q2 : Int64) (h0 : Heap) (n0 : Nat) (Z0 : n0 ≤ h0.size) :
    MetFree l (⟨"java/lang/Math", "min", "(JJ)J"⟩ : MethodName) (head1 (Jvm.Cond.code (⟨"java/lang/Math", "min", "(JJ)J"⟩ : MethodName) jdk_29_method_70_code 4 (some .long) :: ws) ({ frames := 0, cells := 0, slots := 0, locals := 0 } : Room)) (fun a U => a = #[(.long q1), (.long q2)] ∧ Z.Warmed39 U.vm ∧ U.heap = h0) (fun _ _ _ _ _ => True) (fun _ U o U' => ∃ v L, o = .returned v ∧ QV (some (.long (own_lmin q1 q2))) h0 n0 v U'.heap L ∧ FrameEnd U o U' L ({ frames := 0, cells := 0, slots := 0, locals := 0 } : Room).cells ({ frames := 0, cells := 0, slots := 0, locals := 0 } : Room).slots) := by
  by_cases hc3 : (0 : Int32) < (lcmpW q1 q2)
  · have he : own_lmin q1 q2 = q2 := by unfold own_lmin; rw [if_pos hc3]
    rw [he]; exact rm2_t l Z a0 hw ws q1 q2 h0 n0 Z0 hc3
  · have he : own_lmin q1 q2 = q1 := by unfold own_lmin; rw [if_neg hc3]
    rw [he]; exact rm2_f l Z a0 hw ws q1 q2 h0 n0 Z0 hc3
theorem d3_10 : decode prog_41_method_10_code 10 = .ok (.lload 4, 2) := by decide +kernel
theorem d3_12 : decode prog_41_method_10_code 12 = .ok (.lload 6, 2) := by decide +kernel
theorem d3_14 : decode prog_41_method_10_code 14 = .ok (.ldc2_w 100, 3) := by decide +kernel
theorem d3_17 : decode prog_41_method_10_code 17 = .ok (.ldiv, 1) := by decide +kernel
theorem d3_18 : decode prog_41_method_10_code 18 = .ok (.lcmp, 1) := by decide +kernel
theorem d3_19 : decode prog_41_method_10_code 19 = .ok (.ifCond .gt 29, 3) := by decide +kernel
theorem d3_22 : decode prog_41_method_10_code 22 = .ok (.lload_n 0, 1) := by decide +kernel
theorem d3_23 : decode prog_41_method_10_code 23 = .ok (.lconst 1, 1) := by decide +kernel
theorem d3_24 : decode prog_41_method_10_code 24 = .ok (.lsub, 1) := by decide +kernel
theorem d3_25 : decode prog_41_method_10_code 25 = .ok (.lload 4, 2) := by decide +kernel
theorem d3_27 : decode prog_41_method_10_code 27 = .ok (.ldc2_w 100, 3) := by decide +kernel
theorem d3_30 : decode prog_41_method_10_code 30 = .ok (.lmul, 1) := by decide +kernel
theorem d3_31 : decode prog_41_method_10_code 31 = .ok (.lrem, 1) := by decide +kernel
theorem d3_32 : decode prog_41_method_10_code 32 = .ok (.lconst 0, 1) := by decide +kernel
theorem d3_33 : decode prog_41_method_10_code 33 = .ok (.lcmp, 1) := by decide +kernel
theorem d3_34 : decode prog_41_method_10_code 34 = .ok (.ifCond .ne 14, 3) := by decide +kernel
theorem d3_37 : decode prog_41_method_10_code 37 = .ok (.lload 4, 2) := by decide +kernel
theorem d3_39 : decode prog_41_method_10_code 39 = .ok (.ldc2_w 100, 3) := by decide +kernel
theorem d3_42 : decode prog_41_method_10_code 42 = .ok (.lmul, 1) := by decide +kernel
theorem d3_43 : decode prog_41_method_10_code 43 = .ok (.lstore 4, 2) := by decide +kernel
theorem d3_45 : decode prog_41_method_10_code 45 = .ok (.goto (-35), 3) := by decide +kernel
theorem d3_0 : decode prog_41_method_10_code 0 = .ok (.lconst 1, 1) := by decide +kernel
theorem d3_1 : decode prog_41_method_10_code 1 = .ok (.lstore 4, 2) := by decide +kernel
theorem d3_3 : decode prog_41_method_10_code 3 = .ok (.lload_n 2, 1) := by decide +kernel
theorem d3_4 : decode prog_41_method_10_code 4 = .ok (.lload_n 0, 1) := by decide +kernel
theorem d3_5 : decode prog_41_method_10_code 5 = .ok (.lsub, 1) := by decide +kernel
theorem d3_6 : decode prog_41_method_10_code 6 = .ok (.lconst 1, 1) := by decide +kernel
theorem d3_7 : decode prog_41_method_10_code 7 = .ok (.ladd, 1) := by decide +kernel
theorem d3_8 : decode prog_41_method_10_code 8 = .ok (.lstore 6, 2) := by decide +kernel
theorem d3_48 : decode prog_41_method_10_code 48 = .ok (.lload 4, 2) := by decide +kernel
theorem d3_50 : decode prog_41_method_10_code 50 = .ok (.lreturn, 1) := by decide +kernel
theorem pn_3 : plainName "com/example/tab30/tab30/book/Segment" = true := by first | (simp [plainName, overriddenIn]; done) | decide +kernel
theorem ef_3 (m : MethodId) (x0 : Int64) (x1 : Int64) : entryFrame m #[(.long x0), (.long x1)] 8 = mkF m 0 #[.val (.long x0), .second, .val (.long x1), .second, .unset, .unset, .unset, .unset] [] := by first | (simp [entryFrame, mkF, argsToLocals, Value.category]; done) | rfl
set_option maxRecDepth 65536 in
set_option maxHeartbeats 40000000 in
theorem lt_turn {p : Program} {l : Launch} {e : Env} {R : Room} {s : State} {m : MethodId} {args : Array Value} {below : List Frame} {meth : Method} {c : Code} {T0 : State} {locs : List Loc} {cells slots : Nat} {Z : State} {a0 : Array Value} {h0 : Heap} (j0 : Int64) (j2 : Int64) (j4 : Int64) (j6 : Int64)
    (X0 : Stand p l e R s m args below meth c T0 locs cells slots) (hx : p.tables.exec = Jvm.exec) (hZ : Z.Warmed39 s.vm) (hw : ∀ d ∈ tables_1, d.before a0 Z = true) (hby : c.code = prog_41_method_10_code) (hml : c.maxLocals = 8) (hown : s.vm.findClass "com/example/tab30/tab30/book/Segment" = some m.cls) (e0 : T0.heap = h0) (hnz17 : ¬ ((16 : Int64) = (0 : Int64))) (hc19 : ¬ ((0 : Int32) < (lcmpW j4 (j6 / (16 : Int64))))) (hnz31 : ¬ ((j4 * (16 : Int64)) = (0 : Int64))) (hc34 : (lcmpW ((j0 - (1 : Int64)) % (j4 * (16 : Int64))) (0 : Int64)) = (0 : Int32)) :
    ∃ (T' : State), Stand p l e R s m args below meth c T' locs cells slots ∧ T'.heap = h0 ∧
      ∀ target, Steps p.tables e below (T'.setTop (mkF m 10 #[.val (.long j0), .second, .val (.long j2), .second, .val (.long (j4 * (16 : Int64))), .second, .val (.long j6), .second] [])) target → Steps p.tables e below (T0.setTop (mkF m 10 #[.val (.long j0), .second, .val (.long j2), .second, .val (.long j4), .second, .val (.long j6), .second] [])) target := by

  refine ⟨T0, X0, e0, fun target kt => ?_⟩
  show Steps p.tables e below (T0.setTop (mkF m 10 #[.val (.long j0), .second, .val (.long j2), .second, .val (.long j4), .second, .val (.long j6), .second] [])) _
  refine XS.lload X0.here hx rfl (hb hby d3_10) rfl ?_
  show Steps p.tables e below (T0.setTop (mkF m 12 #[.val (.long j0), .second, .val (.long j2), .second, .val (.long j4), .second, .val (.long j6), .second] [(.long j4)])) _
  refine XS.lload X0.here hx rfl (hb hby d3_12) rfl ?_
  show Steps p.tables e below (T0.setTop (mkF m 14 #[.val (.long j0), .second, .val (.long j2), .second, .val (.long j4), .second, .val (.long j6), .second] [(.long j6), (.long j4)])) _
  refine X0.ldc2Long hx hown (mvT hZ (hw _ (List.mem_of_getElem? (i := 14) rfl))) (g := (mkF m 14 #[.val (.long j0), .second, .val (.long j2), .second, .val (.long j4), .second, .val (.long j6), .second] [(.long j6), (.long j4)])) rfl (hb hby d3_14) _ ?_
  show Steps p.tables e below (T0.setTop (mkF m 17 #[.val (.long j0), .second, .val (.long j2), .second, .val (.long j4), .second, .val (.long j6), .second] [(.long (16 : Int64)), (.long j6), (.long j4)])) _
  refine XS.ldiv X0.here hx rfl (hb hby d3_17) rfl hnz17 ?_
  show Steps p.tables e below (T0.setTop (mkF m 18 #[.val (.long j0), .second, .val (.long j2), .second, .val (.long j4), .second, .val (.long j6), .second] [(.long (j6 / (16 : Int64))), (.long j4)])) _
  refine XS.lcmp X0.here hx rfl (hb hby d3_18) rfl ?_
  show Steps p.tables e below (T0.setTop (mkF m 19 #[.val (.long j0), .second, .val (.long j2), .second, .val (.long j4), .second, .val (.long j6), .second] [(.int (lcmpW j4 (j6 / (16 : Int64))))])) _
  refine XS.ifNo X0.here hx rfl (hb hby d3_19) rfl ((if0 _ _).trans (flt hc19).2.2.1) ?_
  show Steps p.tables e below (T0.setTop (mkF m 22 #[.val (.long j0), .second, .val (.long j2), .second, .val (.long j4), .second, .val (.long j6), .second] [])) _
  refine XS.lloadN X0.here hx rfl (hb hby d3_22) rfl ?_
  show Steps p.tables e below (T0.setTop (mkF m 23 #[.val (.long j0), .second, .val (.long j2), .second, .val (.long j4), .second, .val (.long j6), .second] [(.long j0)])) _
  refine XS.lconst X0.here hx rfl (hb hby d3_23) ?_
  show Steps p.tables e below (T0.setTop (mkF m 24 #[.val (.long j0), .second, .val (.long j2), .second, .val (.long j4), .second, .val (.long j6), .second] [(.long (1 : Int64)), (.long j0)])) _
  refine XS.lsub X0.here hx rfl (hb hby d3_24) rfl ?_
  show Steps p.tables e below (T0.setTop (mkF m 25 #[.val (.long j0), .second, .val (.long j2), .second, .val (.long j4), .second, .val (.long j6), .second] [(.long (j0 - (1 : Int64)))])) _
  refine XS.lload X0.here hx rfl (hb hby d3_25) rfl ?_
  show Steps p.tables e below (T0.setTop (mkF m 27 #[.val (.long j0), .second, .val (.long j2), .second, .val (.long j4), .second, .val (.long j6), .second] [(.long j4), (.long (j0 - (1 : Int64)))])) _
  refine X0.ldc2Long hx hown (mvT hZ (hw _ (List.mem_of_getElem? (i := 14) rfl))) (g := (mkF m 27 #[.val (.long j0), .second, .val (.long j2), .second, .val (.long j4), .second, .val (.long j6), .second] [(.long j4), (.long (j0 - (1 : Int64)))])) rfl (hb hby d3_27) _ ?_
  show Steps p.tables e below (T0.setTop (mkF m 30 #[.val (.long j0), .second, .val (.long j2), .second, .val (.long j4), .second, .val (.long j6), .second] [(.long (16 : Int64)), (.long j4), (.long (j0 - (1 : Int64)))])) _
  refine XS.lmul X0.here hx rfl (hb hby d3_30) rfl ?_
  show Steps p.tables e below (T0.setTop (mkF m 31 #[.val (.long j0), .second, .val (.long j2), .second, .val (.long j4), .second, .val (.long j6), .second] [(.long (j4 * (16 : Int64))), (.long (j0 - (1 : Int64)))])) _
  refine XS.lrem X0.here hx rfl (hb hby d3_31) rfl hnz31 ?_
  rw [lrem_mod]
  show Steps p.tables e below (T0.setTop (mkF m 32 #[.val (.long j0), .second, .val (.long j2), .second, .val (.long j4), .second, .val (.long j6), .second] [(.long ((j0 - (1 : Int64)) % (j4 * (16 : Int64))))])) _
  refine XS.lconst X0.here hx rfl (hb hby d3_32) ?_
  show Steps p.tables e below (T0.setTop (mkF m 33 #[.val (.long j0), .second, .val (.long j2), .second, .val (.long j4), .second, .val (.long j6), .second] [(.long (0 : Int64)), (.long ((j0 - (1 : Int64)) % (j4 * (16 : Int64))))])) _
  refine XS.lcmp X0.here hx rfl (hb hby d3_33) rfl ?_
  show Steps p.tables e below (T0.setTop (mkF m 34 #[.val (.long j0), .second, .val (.long j2), .second, .val (.long j4), .second, .val (.long j6), .second] [(.int (lcmpW ((j0 - (1 : Int64)) % (j4 * (16 : Int64))) (0 : Int64)))])) _
  refine XS.ifNo X0.here hx rfl (hb hby d3_34) rfl ((if0 _ _).trans (teq hc34).2) ?_
  show Steps p.tables e below (T0.setTop (mkF m 37 #[.val (.long j0), .second, .val (.long j2), .second, .val (.long j4), .second, .val (.long j6), .second] [])) _
  refine XS.lload X0.here hx rfl (hb hby d3_37) rfl ?_
  show Steps p.tables e below (T0.setTop (mkF m 39 #[.val (.long j0), .second, .val (.long j2), .second, .val (.long j4), .second, .val (.long j6), .second] [(.long j4)])) _
  refine X0.ldc2Long hx hown (mvT hZ (hw _ (List.mem_of_getElem? (i := 14) rfl))) (g := (mkF m 39 #[.val (.long j0), .second, .val (.long j2), .second, .val (.long j4), .second, .val (.long j6), .second] [(.long j4)])) rfl (hb hby d3_39) _ ?_
  show Steps p.tables e below (T0.setTop (mkF m 42 #[.val (.long j0), .second, .val (.long j2), .second, .val (.long j4), .second, .val (.long j6), .second] [(.long (16 : Int64)), (.long j4)])) _
  refine XS.lmul X0.here hx rfl (hb hby d3_42) rfl ?_
  show Steps p.tables e below (T0.setTop (mkF m 43 #[.val (.long j0), .second, .val (.long j2), .second, .val (.long j4), .second, .val (.long j6), .second] [(.long (j4 * (16 : Int64)))])) _
  refine XS.lstore X0.here hx rfl (hb hby d3_43) rfl (l' := #[.val (.long j0), .second, .val (.long j2), .second, .val (.long (j4 * (16 : Int64))), .second, .val (.long j6), .second]) rfl ?_
  show Steps p.tables e below (T0.setTop (mkF m 45 #[.val (.long j0), .second, .val (.long j2), .second, .val (.long (j4 * (16 : Int64))), .second, .val (.long j6), .second] [])) _
  refine XS.goto X0.here hx rfl (pc0 := 45) (pc' := 10) rfl (hb hby d3_45) (by decide) (by decide) ?_
  exact kt
set_option maxRecDepth 65536 in
set_option maxHeartbeats 40000000 in
theorem lt_out1 {p : Program} {l : Launch} {e : Env} {R : Room} {s : State} {m : MethodId} {args : Array Value} {below : List Frame} {meth : Method} {c : Code} {T0 : State} {locs : List Loc} {cells slots : Nat} {Z : State} {a0 : Array Value} {h0 : Heap} (j0 : Int64) (j2 : Int64) (j4 : Int64) (j6 : Int64)
    (X0 : Stand p l e R s m args below meth c T0 locs cells slots) (hx : p.tables.exec = Jvm.exec) (hZ : Z.Warmed39 s.vm) (hw : ∀ d ∈ tables_1, d.before a0 Z = true) (hby : c.code = prog_41_method_10_code) (hml : c.maxLocals = 8) (hown : s.vm.findClass "com/example/tab30/tab30/book/Segment" = some m.cls) (e0 : T0.heap = h0) (hnz17 : ¬ ((16 : Int64) = (0 : Int64))) (hc19 : (0 : Int32) < (lcmpW j4 (j6 / (16 : Int64)))) :
    ∃ (T' : State), Stand p l e R s m args below meth c T' locs cells slots ∧ T'.heap = h0 ∧
      ∀ target, Steps p.tables e below (T'.setTop (mkF m 48 #[.val (.long j0), .second, .val (.long j2), .second, .val (.long j4), .second, .val (.long j6), .second] [])) target → Steps p.tables e below (T0.setTop (mkF m 10 #[.val (.long j0), .second, .val (.long j2), .second, .val (.long j4), .second, .val (.long j6), .second] [])) target := by

  refine ⟨T0, X0, e0, fun target kt => ?_⟩
  show Steps p.tables e below (T0.setTop (mkF m 10 #[.val (.long j0), .second, .val (.long j2), .second, .val (.long j4), .second, .val (.long j6), .second] [])) _
  refine XS.lload X0.here hx rfl (hb hby d3_10) rfl ?_
  show Steps p.tables e below (T0.setTop (mkF m 12 #[.val (.long j0), .second, .val (.long j2), .second, .val (.long j4), .second, .val (.long j6), .second] [(.long j4)])) _
  refine XS.lload X0.here hx rfl (hb hby d3_12) rfl ?_
  show Steps p.tables e below (T0.setTop (mkF m 14 #[.val (.long j0), .second, .val (.long j2), .second, .val (.long j4), .second, .val (.long j6), .second] [(.long j6), (.long j4)])) _
  refine X0.ldc2Long hx hown (mvT hZ (hw _ (List.mem_of_getElem? (i := 14) rfl))) (g := (mkF m 14 #[.val (.long j0), .second, .val (.long j2), .second, .val (.long j4), .second, .val (.long j6), .second] [(.long j6), (.long j4)])) rfl (hb hby d3_14) _ ?_
  show Steps p.tables e below (T0.setTop (mkF m 17 #[.val (.long j0), .second, .val (.long j2), .second, .val (.long j4), .second, .val (.long j6), .second] [(.long (16 : Int64)), (.long j6), (.long j4)])) _
  refine XS.ldiv X0.here hx rfl (hb hby d3_17) rfl hnz17 ?_
  show Steps p.tables e below (T0.setTop (mkF m 18 #[.val (.long j0), .second, .val (.long j2), .second, .val (.long j4), .second, .val (.long j6), .second] [(.long (j6 / (16 : Int64))), (.long j4)])) _
  refine XS.lcmp X0.here hx rfl (hb hby d3_18) rfl ?_
  show Steps p.tables e below (T0.setTop (mkF m 19 #[.val (.long j0), .second, .val (.long j2), .second, .val (.long j4), .second, .val (.long j6), .second] [(.int (lcmpW j4 (j6 / (16 : Int64))))])) _
  refine XS.ifYes X0.here hx rfl (pc0 := 19) (pc' := 48) rfl (hb hby d3_19) rfl ((if0 _ _).trans (tlt hc19).2.2.1) (by decide) (by decide) ?_
  exact kt
set_option maxRecDepth 65536 in
set_option maxHeartbeats 40000000 in
theorem lt_out2 {p : Program} {l : Launch} {e : Env} {R : Room} {s : State} {m : MethodId} {args : Array Value} {below : List Frame} {meth : Method} {c : Code} {T0 : State} {locs : List Loc} {cells slots : Nat} {Z : State} {a0 : Array Value} {h0 : Heap} (j0 : Int64) (j2 : Int64) (j4 : Int64) (j6 : Int64)
    (X0 : Stand p l e R s m args below meth c T0 locs cells slots) (hx : p.tables.exec = Jvm.exec) (hZ : Z.Warmed39 s.vm) (hw : ∀ d ∈ tables_1, d.before a0 Z = true) (hby : c.code = prog_41_method_10_code) (hml : c.maxLocals = 8) (hown : s.vm.findClass "com/example/tab30/tab30/book/Segment" = some m.cls) (e0 : T0.heap = h0) (hnz17 : ¬ ((16 : Int64) = (0 : Int64))) (hc19 : ¬ ((0 : Int32) < (lcmpW j4 (j6 / (16 : Int64))))) (hnz31 : ¬ ((j4 * (16 : Int64)) = (0 : Int64))) (hc34 : ¬ ((lcmpW ((j0 - (1 : Int64)) % (j4 * (16 : Int64))) (0 : Int64)) = (0 : Int32))) :
    ∃ (T' : State), Stand p l e R s m args below meth c T' locs cells slots ∧ T'.heap = h0 ∧
      ∀ target, Steps p.tables e below (T'.setTop (mkF m 48 #[.val (.long j0), .second, .val (.long j2), .second, .val (.long j4), .second, .val (.long j6), .second] [])) target → Steps p.tables e below (T0.setTop (mkF m 10 #[.val (.long j0), .second, .val (.long j2), .second, .val (.long j4), .second, .val (.long j6), .second] [])) target := by

  refine ⟨T0, X0, e0, fun target kt => ?_⟩
  show Steps p.tables e below (T0.setTop (mkF m 10 #[.val (.long j0), .second, .val (.long j2), .second, .val (.long j4), .second, .val (.long j6), .second] [])) _
  refine XS.lload X0.here hx rfl (hb hby d3_10) rfl ?_
  show Steps p.tables e below (T0.setTop (mkF m 12 #[.val (.long j0), .second, .val (.long j2), .second, .val (.long j4), .second, .val (.long j6), .second] [(.long j4)])) _
  refine XS.lload X0.here hx rfl (hb hby d3_12) rfl ?_
  show Steps p.tables e below (T0.setTop (mkF m 14 #[.val (.long j0), .second, .val (.long j2), .second, .val (.long j4), .second, .val (.long j6), .second] [(.long j6), (.long j4)])) _
  refine X0.ldc2Long hx hown (mvT hZ (hw _ (List.mem_of_getElem? (i := 14) rfl))) (g := (mkF m 14 #[.val (.long j0), .second, .val (.long j2), .second, .val (.long j4), .second, .val (.long j6), .second] [(.long j6), (.long j4)])) rfl (hb hby d3_14) _ ?_
  show Steps p.tables e below (T0.setTop (mkF m 17 #[.val (.long j0), .second, .val (.long j2), .second, .val (.long j4), .second, .val (.long j6), .second] [(.long (16 : Int64)), (.long j6), (.long j4)])) _
  refine XS.ldiv X0.here hx rfl (hb hby d3_17) rfl hnz17 ?_
  show Steps p.tables e below (T0.setTop (mkF m 18 #[.val (.long j0), .second, .val (.long j2), .second, .val (.long j4), .second, .val (.long j6), .second] [(.long (j6 / (16 : Int64))), (.long j4)])) _
  refine XS.lcmp X0.here hx rfl (hb hby d3_18) rfl ?_
  show Steps p.tables e below (T0.setTop (mkF m 19 #[.val (.long j0), .second, .val (.long j2), .second, .val (.long j4), .second, .val (.long j6), .second] [(.int (lcmpW j4 (j6 / (16 : Int64))))])) _
  refine XS.ifNo X0.here hx rfl (hb hby d3_19) rfl ((if0 _ _).trans (flt hc19).2.2.1) ?_
  show Steps p.tables e below (T0.setTop (mkF m 22 #[.val (.long j0), .second, .val (.long j2), .second, .val (.long j4), .second, .val (.long j6), .second] [])) _
  refine XS.lloadN X0.here hx rfl (hb hby d3_22) rfl ?_
  show Steps p.tables e below (T0.setTop (mkF m 23 #[.val (.long j0), .second, .val (.long j2), .second, .val (.long j4), .second, .val (.long j6), .second] [(.long j0)])) _
  refine XS.lconst X0.here hx rfl (hb hby d3_23) ?_
  show Steps p.tables e below (T0.setTop (mkF m 24 #[.val (.long j0), .second, .val (.long j2), .second, .val (.long j4), .second, .val (.long j6), .second] [(.long (1 : Int64)), (.long j0)])) _
  refine XS.lsub X0.here hx rfl (hb hby d3_24) rfl ?_
  show Steps p.tables e below (T0.setTop (mkF m 25 #[.val (.long j0), .second, .val (.long j2), .second, .val (.long j4), .second, .val (.long j6), .second] [(.long (j0 - (1 : Int64)))])) _
  refine XS.lload X0.here hx rfl (hb hby d3_25) rfl ?_
  show Steps p.tables e below (T0.setTop (mkF m 27 #[.val (.long j0), .second, .val (.long j2), .second, .val (.long j4), .second, .val (.long j6), .second] [(.long j4), (.long (j0 - (1 : Int64)))])) _
  refine X0.ldc2Long hx hown (mvT hZ (hw _ (List.mem_of_getElem? (i := 14) rfl))) (g := (mkF m 27 #[.val (.long j0), .second, .val (.long j2), .second, .val (.long j4), .second, .val (.long j6), .second] [(.long j4), (.long (j0 - (1 : Int64)))])) rfl (hb hby d3_27) _ ?_
  show Steps p.tables e below (T0.setTop (mkF m 30 #[.val (.long j0), .second, .val (.long j2), .second, .val (.long j4), .second, .val (.long j6), .second] [(.long (16 : Int64)), (.long j4), (.long (j0 - (1 : Int64)))])) _
  refine XS.lmul X0.here hx rfl (hb hby d3_30) rfl ?_
  show Steps p.tables e below (T0.setTop (mkF m 31 #[.val (.long j0), .second, .val (.long j2), .second, .val (.long j4), .second, .val (.long j6), .second] [(.long (j4 * (16 : Int64))), (.long (j0 - (1 : Int64)))])) _
  refine XS.lrem X0.here hx rfl (hb hby d3_31) rfl hnz31 ?_
  rw [lrem_mod]
  show Steps p.tables e below (T0.setTop (mkF m 32 #[.val (.long j0), .second, .val (.long j2), .second, .val (.long j4), .second, .val (.long j6), .second] [(.long ((j0 - (1 : Int64)) % (j4 * (16 : Int64))))])) _
  refine XS.lconst X0.here hx rfl (hb hby d3_32) ?_
  show Steps p.tables e below (T0.setTop (mkF m 33 #[.val (.long j0), .second, .val (.long j2), .second, .val (.long j4), .second, .val (.long j6), .second] [(.long (0 : Int64)), (.long ((j0 - (1 : Int64)) % (j4 * (16 : Int64))))])) _
  refine XS.lcmp X0.here hx rfl (hb hby d3_33) rfl ?_
  show Steps p.tables e below (T0.setTop (mkF m 34 #[.val (.long j0), .second, .val (.long j2), .second, .val (.long j4), .second, .val (.long j6), .second] [(.int (lcmpW ((j0 - (1 : Int64)) % (j4 * (16 : Int64))) (0 : Int64)))])) _
  refine XS.ifYes X0.here hx rfl (pc0 := 34) (pc' := 48) rfl (hb hby d3_34) rfl ((if0 _ _).trans (feq hc34).2) (by decide) (by decide) ?_
  exact kt
def own_lb : Nat → Int64 → Int64 → Int64 → Int64
  | 0, _, _, B => B
  | k + 1, a, s, B => if (0 : Int32) < (lcmpW B (s / (16 : Int64))) then B else if (lcmpW ((a - (1 : Int64)) % (B * (16 : Int64))) (0 : Int64)) = (0 : Int32) then own_lb k a s (B * (16 : Int64)) else B
theorem own_lbs (k : Nat) (a s B : Int64) : own_lb (k + 1) a s B = if (0 : Int32) < (lcmpW B (s / (16 : Int64))) then B else if (lcmpW ((a - (1 : Int64)) % (B * (16 : Int64))) (0 : Int64)) = (0 : Int32) then own_lb k a s (B * (16 : Int64)) else B := rfl
theorem own_pw {i : Nat} (h : i ≤ 14) : 1 ≤ 16 ^ i ∧ 16 ^ i ≤ 72057594037927936 := ⟨Nat.pow_pos (by decide), Nat.le_trans (Nat.pow_le_pow_right (by decide) h) (by decide)⟩
theorem own_mul16 {B : Int64} {i : Nat} (hi : i ≤ 14) (hB : B.toInt = ((16 ^ i : Nat) : Int)) : (B * (16 : Int64)).toInt = ((16 ^ (i + 1) : Nat) : Int) := by
  obtain ⟨p1, p2⟩ := own_pw hi
  have e := c_lmul B 16
  have r := rng64 (B * 16)
  have k16 : (16 : Int64).toInt = 16 := by decide
  rw [k16, hB] at e
  rw [Nat.pow_succ]
  generalize 16 ^ i = P at *
  omega
theorem own_mod {a y : Int64} (ha : 1 ≤ a.toInt) : ((a - (1 : Int64)) % y).toInt = (a.toInt - 1) % y.toInt := by
  have e := c_lsub a 1
  have r := rng64 (a - 1)
  have r2 := rng64 a
  have k1 : (1 : Int64).toInt = 1 := by decide
  have h : (a - 1).toInt = a.toInt - 1 := by omega
  rw [Int64.toInt_mod, h, Int.tmod_eq_emod_of_nonneg (by omega)]
theorem own_d16 {s : Int64} (h : 0 ≤ s.toInt) : (s / (16 : Int64)).toInt = s.toInt / 16 := (c_ldiv s 16 16 (by decide) (by decide)).1 h
theorem own_big : (16 : Nat) ^ 15 = 1152921504606846976 := by decide
set_option maxRecDepth 65536 in
set_option maxHeartbeats 40000000 in
theorem loop3 {p : Program} {l : Launch} {e : Env} {R : Room} {s : State} {m : MethodId} {args : Array Value} {below : List Frame} {meth : Method} {c : Code} {locs : List Loc} {cells slots : Nat} {Z : State} {a0 : Array Value} {h0 : Heap} (j0 j2 j6 : Int64)
    (hx : p.tables.exec = Jvm.exec) (hZ : Z.Warmed39 s.vm) (hw : ∀ d ∈ tables_1, d.before a0 Z = true) (hby : c.code = prog_41_method_10_code) (hml : c.maxLocals = 8) (hown : s.vm.findClass "com/example/tab30/tab30/book/Segment" = some m.cls) (hs1 : 1 ≤ j6.toInt) (hs2 : j6.toInt < 1000000000000000000) :
    ∀ (k i : Nat) (B : Int64) (T0 : State), i + k = 15 → B.toInt = ((16 ^ i : Nat) : Int) → Stand p l e R s m args below meth c T0 locs cells slots → T0.heap = h0 →
      ∃ (T' : State), Stand p l e R s m args below meth c T' locs cells slots ∧ T'.heap = h0 ∧
        ∀ target, Steps p.tables e below (T'.setTop (mkF m 48 #[.val (.long j0), .second, .val (.long j2), .second, .val (.long (own_lb k j0 j6 B)), .second, .val (.long j6), .second] [])) target → Steps p.tables e below (T0.setTop (mkF m 10 #[.val (.long j0), .second, .val (.long j2), .second, .val (.long B), .second, .val (.long j6), .second] [])) target := by
  intro k
  induction k with
  | zero =>
    intro i B T0 hi hB X0 e0
    refine lt_out1 j0 j2 B j6 X0 hx hZ hw hby hml hown e0 (by decide) ?_
    obtain rfl : i = 15 := by omega
    rw [own_big] at hB
    rw [lw_gt, Int64.lt_iff_toInt_lt, own_d16 (by omega)]
    omega
  | succ k ih =>
    intro i B T0 hi hB X0 e0
    have hi14 : i ≤ 14 := by omega
    have hB16 := own_mul16 hi14 hB
    obtain ⟨p1, p2⟩ := own_pw hi14
    by_cases hc19 : (0 : Int32) < (lcmpW B (j6 / (16 : Int64)))
    · rw [own_lbs, if_pos hc19]
      exact lt_out1 j0 j2 B j6 X0 hx hZ hw hby hml hown e0 (by decide) hc19
    · have hnz : ¬ ((B * (16 : Int64)) = (0 : Int64)) := fun q => by
        rw [q, Nat.pow_succ, show (0 : Int64).toInt = 0 from by decide] at hB16
        omega
      by_cases hc34 : (lcmpW ((j0 - (1 : Int64)) % (B * (16 : Int64))) (0 : Int64)) = (0 : Int32)
      · rw [own_lbs, if_neg hc19, if_pos hc34]
        obtain ⟨T1, X1, e1, st1⟩ := lt_turn j0 j2 B j6 X0 hx hZ hw hby hml hown e0 (by decide) hc19 hnz hc34
        obtain ⟨T', X', e', st⟩ := ih (i + 1) (B * (16 : Int64)) T1 (by omega) hB16 X1 e1
        exact ⟨T', X', e', fun target h => st1 target (st target h)⟩
      · rw [own_lbs, if_neg hc19, if_neg hc34]
        exact lt_out2 j0 j2 B j6 X0 hx hZ hw hby hml hown e0 (by decide) hc19 hnz hc34
set_option maxRecDepth 65536 in
set_option maxHeartbeats 40000000 in
theorem rm3 (l : Launch) (Z : State) (a0 : Array Value) (hw : ∀ d ∈ tables_1, d.before a0 Z = true) (ws : List Jvm.Cond) (q1 : Int64) (q2 : Int64) (h0 : Heap) (n0 : Nat) (Z0 : n0 ≤ h0.size) (hs1 : 1 ≤ ((q2 - q1) + (1 : Int64)).toInt) (hs2 : ((q2 - q1) + (1 : Int64)).toInt < 1000000000000000000) :
    MetFree l (⟨"com/example/tab30/tab30/book/Segment", "largestBlock", "(JJ)J"⟩ : MethodName) (head1 (Jvm.Cond.code (⟨"com/example/tab30/tab30/book/Segment", "largestBlock", "(JJ)J"⟩ : MethodName) prog_41_method_10_code 8 (some .long) :: ws) ({ frames := 0, cells := 0, slots := 0, locals := 0 } : Room)) (fun a U => a = #[(.long q1), (.long q2)] ∧ Z.Warmed39 U.vm ∧ U.heap = h0) (fun _ _ _ _ _ => True) (fun _ U o U' => ∃ v L, o = .returned v ∧ QV (some (.long (own_lb 15 q1 ((q2 - q1) + (1 : Int64)) (1 : Int64)))) h0 n0 v U'.heap L ∧ FrameEnd U o U' L ({ frames := 0, cells := 0, slots := 0, locals := 0 } : Room).cells ({ frames := 0, cells := 0, slots := 0, locals := 0 } : Room).slots) := by
  refine MetFree.of_bodySF (plainFor_of_name pn_3) hisR ?_
  intro p e s m args below meth c s₁ Bd hml0 hP hK
  obtain ⟨rfl, hZ, hh⟩ := hP
  have hx := Bd.exec
  have hby := Bd.bytes
  have hml : c.maxLocals = 8 := hml0
  have hown : s.vm.findClass "com/example/tab30/tab30/book/Segment" = some m.cls := findClass_of_methodNamed Bd.named
  have hnm := (name_of_methodNamed Bd.named Bd.method).1
  have X0 : Stand p l e ({ frames := 0, cells := 0, slots := 0, locals := 0 } : Room) s m #[(.long q1), (.long q2)] below meth c s₁ [] 0 0 := Stand.of_body Bd
  have e0 : s₁.heap = h0 := by rw [← hh, Bd.state]; rfl
  have N0 := Fr.nil n0
  have pre0 : ∀ t, Steps p.tables e below (s₁.setTop (mkF m 0 #[.val (.long q1), .second, .val (.long q2), .second, .unset, .unset, .unset, .unset] [])) t → Steps p.tables e below (s₁.setTop (entryFrame m #[(.long q1), (.long q2)] 8)) t := fun t k => castTop (ef_3 m q1 q2) k

  obtain ⟨TL, XL, eL, stL⟩ := loop3 q1 q2 ((q2 - q1) + (1 : Int64)) hx hZ hw hby hml hown hs1 hs2 15 0 (1 : Int64) s₁ (by decide) (by decide) X0 e0
  obtain ⟨fs, hr, hrun, hended, hW, hsame⟩ := XL.leave (v := some (.long (own_lb 15 q1 ((q2 - q1) + (1 : Int64)) (1 : Int64)))) (fun h => by rw [Bd.returns] at h; cases h)
  refine ⟨_, _, pre0 _ ?_, hrun, hended, _, _, rfl, ?_, ⟨_, rfl⟩, hW, hsame.mono (by decide) (by decide)⟩
  · show Steps p.tables e below (s₁.setTop (mkF m 0 #[.val (.long q1), .second, .val (.long q2), .second, .unset, .unset, .unset, .unset] [])) _
    refine XS.lconst X0.here hx rfl (hb hby d3_0) ?_
    show Steps p.tables e below (s₁.setTop (mkF m 1 #[.val (.long q1), .second, .val (.long q2), .second, .unset, .unset, .unset, .unset] [(.long (1 : Int64))])) _
    refine XS.lstore X0.here hx rfl (hb hby d3_1) rfl (l' := #[.val (.long q1), .second, .val (.long q2), .second, .val (.long (1 : Int64)), .second, .unset, .unset]) rfl ?_
    show Steps p.tables e below (s₁.setTop (mkF m 3 #[.val (.long q1), .second, .val (.long q2), .second, .val (.long (1 : Int64)), .second, .unset, .unset] [])) _
    refine XS.lloadN X0.here hx rfl (hb hby d3_3) rfl ?_
    show Steps p.tables e below (s₁.setTop (mkF m 4 #[.val (.long q1), .second, .val (.long q2), .second, .val (.long (1 : Int64)), .second, .unset, .unset] [(.long q2)])) _
    refine XS.lloadN X0.here hx rfl (hb hby d3_4) rfl ?_
    show Steps p.tables e below (s₁.setTop (mkF m 5 #[.val (.long q1), .second, .val (.long q2), .second, .val (.long (1 : Int64)), .second, .unset, .unset] [(.long q1), (.long q2)])) _
    refine XS.lsub X0.here hx rfl (hb hby d3_5) rfl ?_
    show Steps p.tables e below (s₁.setTop (mkF m 6 #[.val (.long q1), .second, .val (.long q2), .second, .val (.long (1 : Int64)), .second, .unset, .unset] [(.long (q2 - q1))])) _
    refine XS.lconst X0.here hx rfl (hb hby d3_6) ?_
    show Steps p.tables e below (s₁.setTop (mkF m 7 #[.val (.long q1), .second, .val (.long q2), .second, .val (.long (1 : Int64)), .second, .unset, .unset] [(.long (1 : Int64)), (.long (q2 - q1))])) _
    refine XS.ladd X0.here hx rfl (hb hby d3_7) rfl ?_
    show Steps p.tables e below (s₁.setTop (mkF m 8 #[.val (.long q1), .second, .val (.long q2), .second, .val (.long (1 : Int64)), .second, .unset, .unset] [(.long ((q2 - q1) + (1 : Int64)))])) _
    refine XS.lstore X0.here hx rfl (hb hby d3_8) rfl (l' := #[.val (.long q1), .second, .val (.long q2), .second, .val (.long (1 : Int64)), .second, .val (.long ((q2 - q1) + (1 : Int64))), .second]) rfl ?_
    show Steps p.tables e below (s₁.setTop (mkF m 10 #[.val (.long q1), .second, .val (.long q2), .second, .val (.long (1 : Int64)), .second, .val (.long ((q2 - q1) + (1 : Int64))), .second] [])) _
    refine stL _ ?_
    refine XS.lload XL.here hx rfl (hb hby d3_48) rfl ?_
    show Steps p.tables e below (TL.setTop (mkF m 50 #[.val (.long q1), .second, .val (.long q2), .second, .val (.long (own_lb 15 q1 ((q2 - q1) + (1 : Int64)) (1 : Int64))), .second, .val (.long ((q2 - q1) + (1 : Int64))), .second] [(.long (own_lb 15 q1 ((q2 - q1) + (1 : Int64)) (1 : Int64)))])) _
    exact retJ XL hx Bd.returns (hb hby d3_50) hr
  · show QV (some (.long (own_lb 15 q1 ((q2 - q1) + (1 : Int64)) (1 : Int64)))) h0 n0 _ TL.heap _
    rw [eL]
    exact ⟨rfl, N0, rfl⟩
set_option maxRecDepth 65536 in
set_option maxHeartbeats 40000000 in
theorem sgA1 {p : Program} {l : Launch} {e : Env} {s : State} {m : MethodId} {args : Array Value} {below : List Frame} {meth : Method} {c : Code} {T0 : State} {locs : List Loc} {Z : State} {a0 : Array Value} {h0 : Heap} {n0 : Nat} (j0 : Int64) (j2 : Int64) (i4 : Int32) (i5 : Int32)
    (X0 : Stand p l e room_1 s m args below meth c T0 locs 0 0) (hx : p.tables.exec = Jvm.exec) (hZ : Z.Warmed39 s.vm) (hw : ∀ d ∈ tables_1, d.before a0 Z = true) (hby : c.code = code) (hml : c.maxLocals = 26) (hown : s.vm.findClass "com/example/tab30/tab30/book/SegmentLargestBlockPinLaw" = some m.cls) (e0 : T0.heap = h0) (Z0 : n0 ≤ h0.size) (N0 : Fr n0 locs) :
    ∃ (T' : State) (h' : Heap) (locs' : List Loc), Stand p l e room_1 s m args below meth c T' locs' 0 0 ∧ T'.heap = h' ∧ Fr n0 locs' ∧ Keep h0 h' [] ∧
      ∀ target, Steps p.tables e below (T'.setTop (mkF m 16 #[.val (.long j0), .second, .val (.long j2), .second, .val (.int i4), .val (.int i5), .val (.long (999999999999999999 : Int64)), .second, .val (.long ((1 : Int64) <<< (((4 : Int32) * (i4 &&& (15 : Int32))) &&& 0x3f).toInt64)), .second, .unset, .unset, .unset, .unset, .unset, .unset, .unset, .unset, .unset, .unset, .unset, .unset, .unset, .unset, .unset, .unset] [])) target → Steps p.tables e below (T0.setTop (mkF m 0 #[.val (.long j0), .second, .val (.long j2), .second, .val (.int i4), .val (.int i5), .unset, .unset, .unset, .unset, .unset, .unset, .unset, .unset, .unset, .unset, .unset, .unset, .unset, .unset, .unset, .unset, .unset, .unset, .unset, .unset] [])) target := by

  refine ⟨T0, _, _, X0, e0, N0, (Keep.refl h0 []), fun target kt => ?_⟩
  show Steps p.tables e below (T0.setTop (mkF m 0 #[.val (.long j0), .second, .val (.long j2), .second, .val (.int i4), .val (.int i5), .unset, .unset, .unset, .unset, .unset, .unset, .unset, .unset, .unset, .unset, .unset, .unset, .unset, .unset, .unset, .unset, .unset, .unset, .unset, .unset] [])) _
  refine X0.ldc2Long hx hown (mvT hZ (hw _ (List.mem_of_getElem? (i := 0) rfl))) (g := (mkF m 0 #[.val (.long j0), .second, .val (.long j2), .second, .val (.int i4), .val (.int i5), .unset, .unset, .unset, .unset, .unset, .unset, .unset, .unset, .unset, .unset, .unset, .unset, .unset, .unset, .unset, .unset, .unset, .unset, .unset, .unset] [])) rfl (hb hby at_0) _ ?_
  show Steps p.tables e below (T0.setTop (mkF m 3 #[.val (.long j0), .second, .val (.long j2), .second, .val (.int i4), .val (.int i5), .unset, .unset, .unset, .unset, .unset, .unset, .unset, .unset, .unset, .unset, .unset, .unset, .unset, .unset, .unset, .unset, .unset, .unset, .unset, .unset] [(.long (999999999999999999 : Int64))])) _
  refine XS.lstore X0.here hx rfl (hb hby at_3) rfl (l' := #[.val (.long j0), .second, .val (.long j2), .second, .val (.int i4), .val (.int i5), .val (.long (999999999999999999 : Int64)), .second, .unset, .unset, .unset, .unset, .unset, .unset, .unset, .unset, .unset, .unset, .unset, .unset, .unset, .unset, .unset, .unset, .unset, .unset]) rfl ?_
  show Steps p.tables e below (T0.setTop (mkF m 5 #[.val (.long j0), .second, .val (.long j2), .second, .val (.int i4), .val (.int i5), .val (.long (999999999999999999 : Int64)), .second, .unset, .unset, .unset, .unset, .unset, .unset, .unset, .unset, .unset, .unset, .unset, .unset, .unset, .unset, .unset, .unset, .unset, .unset] [])) _
  refine XS.lconst X0.here hx rfl (hb hby at_5) ?_
  show Steps p.tables e below (T0.setTop (mkF m 6 #[.val (.long j0), .second, .val (.long j2), .second, .val (.int i4), .val (.int i5), .val (.long (999999999999999999 : Int64)), .second, .unset, .unset, .unset, .unset, .unset, .unset, .unset, .unset, .unset, .unset, .unset, .unset, .unset, .unset, .unset, .unset, .unset, .unset] [(.long (1 : Int64))])) _
  refine XS.iconst X0.here hx rfl (hb hby at_6) ?_
  show Steps p.tables e below (T0.setTop (mkF m 7 #[.val (.long j0), .second, .val (.long j2), .second, .val (.int i4), .val (.int i5), .val (.long (999999999999999999 : Int64)), .second, .unset, .unset, .unset, .unset, .unset, .unset, .unset, .unset, .unset, .unset, .unset, .unset, .unset, .unset, .unset, .unset, .unset, .unset] [(.int (4 : Int32)), (.long (1 : Int64))])) _
  refine XS.iload X0.here hx rfl (hb hby at_7) rfl ?_
  show Steps p.tables e below (T0.setTop (mkF m 9 #[.val (.long j0), .second, .val (.long j2), .second, .val (.int i4), .val (.int i5), .val (.long (999999999999999999 : Int64)), .second, .unset, .unset, .unset, .unset, .unset, .unset, .unset, .unset, .unset, .unset, .unset, .unset, .unset, .unset, .unset, .unset, .unset, .unset] [(.int i4), (.int (4 : Int32)), (.long (1 : Int64))])) _
  refine XS.bipush X0.here hx rfl (hb hby at_9) ?_
  show Steps p.tables e below (T0.setTop (mkF m 11 #[.val (.long j0), .second, .val (.long j2), .second, .val (.int i4), .val (.int i5), .val (.long (999999999999999999 : Int64)), .second, .unset, .unset, .unset, .unset, .unset, .unset, .unset, .unset, .unset, .unset, .unset, .unset, .unset, .unset, .unset, .unset, .unset, .unset] [(.int (15 : Int32)), (.int i4), (.int (4 : Int32)), (.long (1 : Int64))])) _
  refine XS.iand X0.here hx rfl (hb hby at_11) rfl ?_
  show Steps p.tables e below (T0.setTop (mkF m 12 #[.val (.long j0), .second, .val (.long j2), .second, .val (.int i4), .val (.int i5), .val (.long (999999999999999999 : Int64)), .second, .unset, .unset, .unset, .unset, .unset, .unset, .unset, .unset, .unset, .unset, .unset, .unset, .unset, .unset, .unset, .unset, .unset, .unset] [(.int (i4 &&& (15 : Int32))), (.int (4 : Int32)), (.long (1 : Int64))])) _
  refine XS.imul X0.here hx rfl (hb hby at_12) rfl ?_
  show Steps p.tables e below (T0.setTop (mkF m 13 #[.val (.long j0), .second, .val (.long j2), .second, .val (.int i4), .val (.int i5), .val (.long (999999999999999999 : Int64)), .second, .unset, .unset, .unset, .unset, .unset, .unset, .unset, .unset, .unset, .unset, .unset, .unset, .unset, .unset, .unset, .unset, .unset, .unset] [(.int ((4 : Int32) * (i4 &&& (15 : Int32)))), (.long (1 : Int64))])) _
  refine XS.lshl X0.here hx rfl (hb hby at_13) rfl ?_
  show Steps p.tables e below (T0.setTop (mkF m 14 #[.val (.long j0), .second, .val (.long j2), .second, .val (.int i4), .val (.int i5), .val (.long (999999999999999999 : Int64)), .second, .unset, .unset, .unset, .unset, .unset, .unset, .unset, .unset, .unset, .unset, .unset, .unset, .unset, .unset, .unset, .unset, .unset, .unset] [(.long ((1 : Int64) <<< (((4 : Int32) * (i4 &&& (15 : Int32))) &&& 0x3f).toInt64))])) _
  refine XS.lstore X0.here hx rfl (hb hby at_14) rfl (l' := #[.val (.long j0), .second, .val (.long j2), .second, .val (.int i4), .val (.int i5), .val (.long (999999999999999999 : Int64)), .second, .val (.long ((1 : Int64) <<< (((4 : Int32) * (i4 &&& (15 : Int32))) &&& 0x3f).toInt64)), .second, .unset, .unset, .unset, .unset, .unset, .unset, .unset, .unset, .unset, .unset, .unset, .unset, .unset, .unset, .unset, .unset]) rfl ?_
  exact kt
theorem pd_0_0 : parseMethodDescriptor "(JJ)J" = some ⟨[.long, .long], some .long⟩ := by decide +kernel
set_option maxRecDepth 65536 in
set_option maxHeartbeats 40000000 in
theorem sgA2 {p : Program} {l : Launch} {e : Env} {s : State} {m : MethodId} {args : Array Value} {below : List Frame} {meth : Method} {c : Code} {T0 : State} {locs : List Loc} {Z : State} {a0 : Array Value} {h0 : Heap} {n0 : Nat} (j0 : Int64) (j2 : Int64) (i4 : Int32) (i5 : Int32) (j6 : Int64) (j8 : Int64)
    (X0 : Stand p l e room_1 s m args below meth c T0 locs 0 0) (hx : p.tables.exec = Jvm.exec) (hZ : Z.Warmed39 s.vm) (hw : ∀ d ∈ tables_1, d.before a0 Z = true) (hby : c.code = code) (hml : c.maxLocals = 26) (hown : s.vm.findClass "com/example/tab30/tab30/book/SegmentLargestBlockPinLaw" = some m.cls) (e0 : T0.heap = h0) (Z0 : n0 ≤ h0.size) (N0 : Fr n0 locs) (hnz23 : ¬ (j8 = (0 : Int64))) :
    ∃ (T' : State) (h' : Heap) (locs' : List Loc), Stand p l e room_1 s m args below meth c T' locs' 0 0 ∧ T'.heap = h' ∧ Fr n0 locs' ∧ Keep h0 h' [] ∧
      ∀ target, Steps p.tables e below (T'.setTop (mkF m 29 #[.val (.long j0), .second, .val (.long j2), .second, .val (.int i4), .val (.int i5), .val (.long j6), .second, .val (.long j8), .second, .val (.long (own_lmax (1 : Int64) ((j6 - (1 : Int64)) / j8))), .second, .unset, .unset, .unset, .unset, .unset, .unset, .unset, .unset, .unset, .unset, .unset, .unset, .unset, .unset] [])) target → Steps p.tables e below (T0.setTop (mkF m 16 #[.val (.long j0), .second, .val (.long j2), .second, .val (.int i4), .val (.int i5), .val (.long j6), .second, .val (.long j8), .second, .unset, .unset, .unset, .unset, .unset, .unset, .unset, .unset, .unset, .unset, .unset, .unset, .unset, .unset, .unset, .unset] [])) target := by
  obtain ⟨_, _, ⟨T5, L5, k5, n5⟩, -, X5, ⟨Lc5, hQ5, l5, y5, z5⟩, st5⟩ := Jvm.LawKit.callS X0 hx (y := (⟨"java/lang/Math", "max", "(JJ)J"⟩ : MethodName)) hown (mvT hZ (hw _ (List.mem_of_getElem? (i := 1) rfl))) (mvT hZ (hw _ (List.mem_of_getElem? (i := 2) rfl))) (mvT hZ (hw _ (List.mem_of_getElem? (i := 3) rfl))) (mvT hZ (hw _ (List.mem_of_getElem? (i := 4) rfl))) (by decide) (backOf (W := 0) (rm1 l Z a0 hw [] (1 : Int64) ((j6 - (1 : Int64)) / j8) h0 n0 Z0) hZ (hw _ (List.mem_of_getElem? (i := 4) rfl)) (hw _ (List.mem_of_getElem? (i := 3) rfl)) (by decide) (by decide)) (g := (mkF m 24 #[.val (.long j0), .second, .val (.long j2), .second, .val (.int i4), .val (.int i5), .val (.long j6), .second, .val (.long j8), .second, .unset, .unset, .unset, .unset, .unset, .unset, .unset, .unset, .unset, .unset, .unset, .unset, .unset, .unset, .unset, .unset] [(.long ((j6 - (1 : Int64)) / j8)), (.long (1 : Int64))])) rfl (by rw [hml]; rfl) (argsL := [(.long (1 : Int64)), (.long ((j6 - (1 : Int64)) / j8))]) (rest := []) (lenOf pd_0_0 rfl) rfl (by show 2 * 0 + _ ≤ _; exact Nat.le_of_eq rfl) (hb hby at_24) (fun _ _ => ⟨rfl, e0, (Nat.le_of_ble_eq_true rfl), (Nat.le_of_ble_eq_true rfl)⟩)
  dsimp only [Pt.U, Pt.locs, Pt.cells, Pt.slots] at X5 l5 y5 z5 st5 hQ5
  subst l5 y5 z5
  obtain ⟨rfl, N5q, h5q⟩ := hQ5
  have Kq5 : Keep h0 T5.heap [] := by rw [h5q]; exact Keep.refl _ _
  have K5 : Keep h0 T5.heap [] := (Keep.refl h0 []).trans Kq5 (fun _ q => nomatch q)
  have N5 := Fr.app N0 N5q
  refine ⟨T5, _, _, X5, rfl, N5, K5, fun target kt => ?_⟩
  show Steps p.tables e below (T0.setTop (mkF m 16 #[.val (.long j0), .second, .val (.long j2), .second, .val (.int i4), .val (.int i5), .val (.long j6), .second, .val (.long j8), .second, .unset, .unset, .unset, .unset, .unset, .unset, .unset, .unset, .unset, .unset, .unset, .unset, .unset, .unset, .unset, .unset] [])) _
  refine XS.lconst X0.here hx rfl (hb hby at_16) ?_
  show Steps p.tables e below (T0.setTop (mkF m 17 #[.val (.long j0), .second, .val (.long j2), .second, .val (.int i4), .val (.int i5), .val (.long j6), .second, .val (.long j8), .second, .unset, .unset, .unset, .unset, .unset, .unset, .unset, .unset, .unset, .unset, .unset, .unset, .unset, .unset, .unset, .unset] [(.long (1 : Int64))])) _
  refine XS.lload X0.here hx rfl (hb hby at_17) rfl ?_
  show Steps p.tables e below (T0.setTop (mkF m 19 #[.val (.long j0), .second, .val (.long j2), .second, .val (.int i4), .val (.int i5), .val (.long j6), .second, .val (.long j8), .second, .unset, .unset, .unset, .unset, .unset, .unset, .unset, .unset, .unset, .unset, .unset, .unset, .unset, .unset, .unset, .unset] [(.long j6), (.long (1 : Int64))])) _
  refine XS.lconst X0.here hx rfl (hb hby at_19) ?_
  show Steps p.tables e below (T0.setTop (mkF m 20 #[.val (.long j0), .second, .val (.long j2), .second, .val (.int i4), .val (.int i5), .val (.long j6), .second, .val (.long j8), .second, .unset, .unset, .unset, .unset, .unset, .unset, .unset, .unset, .unset, .unset, .unset, .unset, .unset, .unset, .unset, .unset] [(.long (1 : Int64)), (.long j6), (.long (1 : Int64))])) _
  refine XS.lsub X0.here hx rfl (hb hby at_20) rfl ?_
  show Steps p.tables e below (T0.setTop (mkF m 21 #[.val (.long j0), .second, .val (.long j2), .second, .val (.int i4), .val (.int i5), .val (.long j6), .second, .val (.long j8), .second, .unset, .unset, .unset, .unset, .unset, .unset, .unset, .unset, .unset, .unset, .unset, .unset, .unset, .unset, .unset, .unset] [(.long (j6 - (1 : Int64))), (.long (1 : Int64))])) _
  refine XS.lload X0.here hx rfl (hb hby at_21) rfl ?_
  show Steps p.tables e below (T0.setTop (mkF m 23 #[.val (.long j0), .second, .val (.long j2), .second, .val (.int i4), .val (.int i5), .val (.long j6), .second, .val (.long j8), .second, .unset, .unset, .unset, .unset, .unset, .unset, .unset, .unset, .unset, .unset, .unset, .unset, .unset, .unset, .unset, .unset] [(.long j8), (.long (j6 - (1 : Int64))), (.long (1 : Int64))])) _
  refine XS.ldiv X0.here hx rfl (hb hby at_23) rfl hnz23 ?_
  show Steps p.tables e below (T0.setTop (mkF m 24 #[.val (.long j0), .second, .val (.long j2), .second, .val (.int i4), .val (.int i5), .val (.long j6), .second, .val (.long j8), .second, .unset, .unset, .unset, .unset, .unset, .unset, .unset, .unset, .unset, .unset, .unset, .unset, .unset, .unset, .unset, .unset] [(.long ((j6 - (1 : Int64)) / j8)), (.long (1 : Int64))])) _
  refine st5 _ ?_
  show Steps p.tables e below (T5.setTop (mkF m 27 #[.val (.long j0), .second, .val (.long j2), .second, .val (.int i4), .val (.int i5), .val (.long j6), .second, .val (.long j8), .second, .unset, .unset, .unset, .unset, .unset, .unset, .unset, .unset, .unset, .unset, .unset, .unset, .unset, .unset, .unset, .unset] [(.long (own_lmax (1 : Int64) ((j6 - (1 : Int64)) / j8)))])) _
  refine XS.lstore X5.here hx rfl (hb hby at_27) rfl (l' := #[.val (.long j0), .second, .val (.long j2), .second, .val (.int i4), .val (.int i5), .val (.long j6), .second, .val (.long j8), .second, .val (.long (own_lmax (1 : Int64) ((j6 - (1 : Int64)) / j8))), .second, .unset, .unset, .unset, .unset, .unset, .unset, .unset, .unset, .unset, .unset, .unset, .unset, .unset, .unset]) rfl ?_
  exact kt
set_option maxRecDepth 65536 in
set_option maxHeartbeats 40000000 in
theorem sgA3 {p : Program} {l : Launch} {e : Env} {s : State} {m : MethodId} {args : Array Value} {below : List Frame} {meth : Method} {c : Code} {T0 : State} {locs : List Loc} {Z : State} {a0 : Array Value} {h0 : Heap} {n0 : Nat} (j0 : Int64) (j2 : Int64) (i4 : Int32) (i5 : Int32) (j6 : Int64) (j8 : Int64) (j10 : Int64)
    (X0 : Stand p l e room_1 s m args below meth c T0 locs 0 0) (hx : p.tables.exec = Jvm.exec) (hZ : Z.Warmed39 s.vm) (hw : ∀ d ∈ tables_1, d.before a0 Z = true) (hby : c.code = code) (hml : c.maxLocals = 26) (hown : s.vm.findClass "com/example/tab30/tab30/book/SegmentLargestBlockPinLaw" = some m.cls) (e0 : T0.heap = h0) (Z0 : n0 ≤ h0.size) (N0 : Fr n0 locs) (hnz36 : ¬ (j10 = (0 : Int64))) :
    ∃ (T' : State) (h' : Heap) (locs' : List Loc), Stand p l e room_1 s m args below meth c T' locs' 0 0 ∧ T'.heap = h' ∧ Fr n0 locs' ∧ Keep h0 h' [] ∧
      ∀ target, Steps p.tables e below (T'.setTop (mkF m 51 #[.val (.long j0), .second, .val (.long j2), .second, .val (.int i4), .val (.int i5), .val (.long j6), .second, .val (.long j8), .second, .val (.long j10), .second, .val (.long ((((j0 &&& (9223372036854775807 : Int64)) % j10) * j8) + (1 : Int64))), .second, .val (.long (j6 - ((((j0 &&& (9223372036854775807 : Int64)) % j10) * j8) + (1 : Int64)))), .second, .unset, .unset, .unset, .unset, .unset, .unset, .unset, .unset, .unset, .unset] [])) target → Steps p.tables e below (T0.setTop (mkF m 29 #[.val (.long j0), .second, .val (.long j2), .second, .val (.int i4), .val (.int i5), .val (.long j6), .second, .val (.long j8), .second, .val (.long j10), .second, .unset, .unset, .unset, .unset, .unset, .unset, .unset, .unset, .unset, .unset, .unset, .unset, .unset, .unset] [])) target := by

  refine ⟨T0, _, _, X0, e0, N0, (Keep.refl h0 []), fun target kt => ?_⟩
  show Steps p.tables e below (T0.setTop (mkF m 29 #[.val (.long j0), .second, .val (.long j2), .second, .val (.int i4), .val (.int i5), .val (.long j6), .second, .val (.long j8), .second, .val (.long j10), .second, .unset, .unset, .unset, .unset, .unset, .unset, .unset, .unset, .unset, .unset, .unset, .unset, .unset, .unset] [])) _
  refine XS.lloadN X0.here hx rfl (hb hby at_29) rfl ?_
  show Steps p.tables e below (T0.setTop (mkF m 30 #[.val (.long j0), .second, .val (.long j2), .second, .val (.int i4), .val (.int i5), .val (.long j6), .second, .val (.long j8), .second, .val (.long j10), .second, .unset, .unset, .unset, .unset, .unset, .unset, .unset, .unset, .unset, .unset, .unset, .unset, .unset, .unset] [(.long j0)])) _
  refine X0.ldc2Long hx hown (mvT hZ (hw _ (List.mem_of_getElem? (i := 5) rfl))) (g := (mkF m 30 #[.val (.long j0), .second, .val (.long j2), .second, .val (.int i4), .val (.int i5), .val (.long j6), .second, .val (.long j8), .second, .val (.long j10), .second, .unset, .unset, .unset, .unset, .unset, .unset, .unset, .unset, .unset, .unset, .unset, .unset, .unset, .unset] [(.long j0)])) rfl (hb hby at_30) _ ?_
  show Steps p.tables e below (T0.setTop (mkF m 33 #[.val (.long j0), .second, .val (.long j2), .second, .val (.int i4), .val (.int i5), .val (.long j6), .second, .val (.long j8), .second, .val (.long j10), .second, .unset, .unset, .unset, .unset, .unset, .unset, .unset, .unset, .unset, .unset, .unset, .unset, .unset, .unset] [(.long (9223372036854775807 : Int64)), (.long j0)])) _
  refine XS.land X0.here hx rfl (hb hby at_33) rfl ?_
  show Steps p.tables e below (T0.setTop (mkF m 34 #[.val (.long j0), .second, .val (.long j2), .second, .val (.int i4), .val (.int i5), .val (.long j6), .second, .val (.long j8), .second, .val (.long j10), .second, .unset, .unset, .unset, .unset, .unset, .unset, .unset, .unset, .unset, .unset, .unset, .unset, .unset, .unset] [(.long (j0 &&& (9223372036854775807 : Int64)))])) _
  refine XS.lload X0.here hx rfl (hb hby at_34) rfl ?_
  show Steps p.tables e below (T0.setTop (mkF m 36 #[.val (.long j0), .second, .val (.long j2), .second, .val (.int i4), .val (.int i5), .val (.long j6), .second, .val (.long j8), .second, .val (.long j10), .second, .unset, .unset, .unset, .unset, .unset, .unset, .unset, .unset, .unset, .unset, .unset, .unset, .unset, .unset] [(.long j10), (.long (j0 &&& (9223372036854775807 : Int64)))])) _
  refine XS.lrem X0.here hx rfl (hb hby at_36) rfl hnz36 ?_
  rw [lrem_mod]
  show Steps p.tables e below (T0.setTop (mkF m 37 #[.val (.long j0), .second, .val (.long j2), .second, .val (.int i4), .val (.int i5), .val (.long j6), .second, .val (.long j8), .second, .val (.long j10), .second, .unset, .unset, .unset, .unset, .unset, .unset, .unset, .unset, .unset, .unset, .unset, .unset, .unset, .unset] [(.long ((j0 &&& (9223372036854775807 : Int64)) % j10))])) _
  refine XS.lload X0.here hx rfl (hb hby at_37) rfl ?_
  show Steps p.tables e below (T0.setTop (mkF m 39 #[.val (.long j0), .second, .val (.long j2), .second, .val (.int i4), .val (.int i5), .val (.long j6), .second, .val (.long j8), .second, .val (.long j10), .second, .unset, .unset, .unset, .unset, .unset, .unset, .unset, .unset, .unset, .unset, .unset, .unset, .unset, .unset] [(.long j8), (.long ((j0 &&& (9223372036854775807 : Int64)) % j10))])) _
  refine XS.lmul X0.here hx rfl (hb hby at_39) rfl ?_
  show Steps p.tables e below (T0.setTop (mkF m 40 #[.val (.long j0), .second, .val (.long j2), .second, .val (.int i4), .val (.int i5), .val (.long j6), .second, .val (.long j8), .second, .val (.long j10), .second, .unset, .unset, .unset, .unset, .unset, .unset, .unset, .unset, .unset, .unset, .unset, .unset, .unset, .unset] [(.long (((j0 &&& (9223372036854775807 : Int64)) % j10) * j8))])) _
  refine XS.lconst X0.here hx rfl (hb hby at_40) ?_
  show Steps p.tables e below (T0.setTop (mkF m 41 #[.val (.long j0), .second, .val (.long j2), .second, .val (.int i4), .val (.int i5), .val (.long j6), .second, .val (.long j8), .second, .val (.long j10), .second, .unset, .unset, .unset, .unset, .unset, .unset, .unset, .unset, .unset, .unset, .unset, .unset, .unset, .unset] [(.long (1 : Int64)), (.long (((j0 &&& (9223372036854775807 : Int64)) % j10) * j8))])) _
  refine XS.ladd X0.here hx rfl (hb hby at_41) rfl ?_
  show Steps p.tables e below (T0.setTop (mkF m 42 #[.val (.long j0), .second, .val (.long j2), .second, .val (.int i4), .val (.int i5), .val (.long j6), .second, .val (.long j8), .second, .val (.long j10), .second, .unset, .unset, .unset, .unset, .unset, .unset, .unset, .unset, .unset, .unset, .unset, .unset, .unset, .unset] [(.long ((((j0 &&& (9223372036854775807 : Int64)) % j10) * j8) + (1 : Int64)))])) _
  refine XS.lstore X0.here hx rfl (hb hby at_42) rfl (l' := #[.val (.long j0), .second, .val (.long j2), .second, .val (.int i4), .val (.int i5), .val (.long j6), .second, .val (.long j8), .second, .val (.long j10), .second, .val (.long ((((j0 &&& (9223372036854775807 : Int64)) % j10) * j8) + (1 : Int64))), .second, .unset, .unset, .unset, .unset, .unset, .unset, .unset, .unset, .unset, .unset, .unset, .unset]) rfl ?_
  show Steps p.tables e below (T0.setTop (mkF m 44 #[.val (.long j0), .second, .val (.long j2), .second, .val (.int i4), .val (.int i5), .val (.long j6), .second, .val (.long j8), .second, .val (.long j10), .second, .val (.long ((((j0 &&& (9223372036854775807 : Int64)) % j10) * j8) + (1 : Int64))), .second, .unset, .unset, .unset, .unset, .unset, .unset, .unset, .unset, .unset, .unset, .unset, .unset] [])) _
  refine XS.lload X0.here hx rfl (hb hby at_44) rfl ?_
  show Steps p.tables e below (T0.setTop (mkF m 46 #[.val (.long j0), .second, .val (.long j2), .second, .val (.int i4), .val (.int i5), .val (.long j6), .second, .val (.long j8), .second, .val (.long j10), .second, .val (.long ((((j0 &&& (9223372036854775807 : Int64)) % j10) * j8) + (1 : Int64))), .second, .unset, .unset, .unset, .unset, .unset, .unset, .unset, .unset, .unset, .unset, .unset, .unset] [(.long j6)])) _
  refine XS.lload X0.here hx rfl (hb hby at_46) rfl ?_
  show Steps p.tables e below (T0.setTop (mkF m 48 #[.val (.long j0), .second, .val (.long j2), .second, .val (.int i4), .val (.int i5), .val (.long j6), .second, .val (.long j8), .second, .val (.long j10), .second, .val (.long ((((j0 &&& (9223372036854775807 : Int64)) % j10) * j8) + (1 : Int64))), .second, .unset, .unset, .unset, .unset, .unset, .unset, .unset, .unset, .unset, .unset, .unset, .unset] [(.long ((((j0 &&& (9223372036854775807 : Int64)) % j10) * j8) + (1 : Int64))), (.long j6)])) _
  refine XS.lsub X0.here hx rfl (hb hby at_48) rfl ?_
  show Steps p.tables e below (T0.setTop (mkF m 49 #[.val (.long j0), .second, .val (.long j2), .second, .val (.int i4), .val (.int i5), .val (.long j6), .second, .val (.long j8), .second, .val (.long j10), .second, .val (.long ((((j0 &&& (9223372036854775807 : Int64)) % j10) * j8) + (1 : Int64))), .second, .unset, .unset, .unset, .unset, .unset, .unset, .unset, .unset, .unset, .unset, .unset, .unset] [(.long (j6 - ((((j0 &&& (9223372036854775807 : Int64)) % j10) * j8) + (1 : Int64))))])) _
  refine XS.lstore X0.here hx rfl (hb hby at_49) rfl (l' := #[.val (.long j0), .second, .val (.long j2), .second, .val (.int i4), .val (.int i5), .val (.long j6), .second, .val (.long j8), .second, .val (.long j10), .second, .val (.long ((((j0 &&& (9223372036854775807 : Int64)) % j10) * j8) + (1 : Int64))), .second, .val (.long (j6 - ((((j0 &&& (9223372036854775807 : Int64)) % j10) * j8) + (1 : Int64)))), .second, .unset, .unset, .unset, .unset, .unset, .unset, .unset, .unset, .unset, .unset]) rfl ?_
  exact kt
set_option maxRecDepth 65536 in
set_option maxHeartbeats 40000000 in
theorem sgB_f {p : Program} {l : Launch} {e : Env} {s : State} {m : MethodId} {args : Array Value} {below : List Frame} {meth : Method} {c : Code} {T0 : State} {locs : List Loc} {Z : State} {a0 : Array Value} {h0 : Heap} {n0 : Nat} (j0 : Int64) (j2 : Int64) (i4 : Int32) (i5 : Int32) (j6 : Int64) (j8 : Int64) (j10 : Int64) (j12 : Int64) (j14 : Int64)
    (X0 : Stand p l e room_1 s m args below meth c T0 locs 0 0) (hx : p.tables.exec = Jvm.exec) (hZ : Z.Warmed39 s.vm) (hw : ∀ d ∈ tables_1, d.before a0 Z = true) (hby : c.code = code) (hml : c.maxLocals = 26) (hown : s.vm.findClass "com/example/tab30/tab30/book/SegmentLargestBlockPinLaw" = some m.cls) (e0 : T0.heap = h0) (Z0 : n0 ≤ h0.size) (N0 : Fr n0 locs) (hc55 : (i5 &&& (1 : Int32)) = (0 : Int32)) (hnz67 : ¬ (j14 = (0 : Int64))) :
    ∃ (T' : State) (h' : Heap) (locs' : List Loc), Stand p l e room_1 s m args below meth c T' locs' 0 0 ∧ T'.heap = h' ∧ Fr n0 locs' ∧ Keep h0 h' [] ∧
      ∀ target, Steps p.tables e below (T'.setTop (mkF m 126 #[.val (.long j0), .second, .val (.long j2), .second, .val (.int i4), .val (.int i5), .val (.long j6), .second, .val (.long j8), .second, .val (.long j10), .second, .val (.long j12), .second, .val (.long j14), .second, .val (.long (j12 + ((j2 &&& (9223372036854775807 : Int64)) % j14))), .second, .val (.long (((j12 + ((j2 &&& (9223372036854775807 : Int64)) % j14)) - j12) + (1 : Int64))), .second, .unset, .unset, .unset, .unset, .unset, .unset] [])) target → Steps p.tables e below (T0.setTop (mkF m 51 #[.val (.long j0), .second, .val (.long j2), .second, .val (.int i4), .val (.int i5), .val (.long j6), .second, .val (.long j8), .second, .val (.long j10), .second, .val (.long j12), .second, .val (.long j14), .second, .unset, .unset, .unset, .unset, .unset, .unset, .unset, .unset, .unset, .unset] [])) target := by

  refine ⟨T0, _, _, X0, e0, N0, (Keep.refl h0 []), fun target kt => ?_⟩
  show Steps p.tables e below (T0.setTop (mkF m 51 #[.val (.long j0), .second, .val (.long j2), .second, .val (.int i4), .val (.int i5), .val (.long j6), .second, .val (.long j8), .second, .val (.long j10), .second, .val (.long j12), .second, .val (.long j14), .second, .unset, .unset, .unset, .unset, .unset, .unset, .unset, .unset, .unset, .unset] [])) _
  refine XS.iload X0.here hx rfl (hb hby at_51) rfl ?_
  show Steps p.tables e below (T0.setTop (mkF m 53 #[.val (.long j0), .second, .val (.long j2), .second, .val (.int i4), .val (.int i5), .val (.long j6), .second, .val (.long j8), .second, .val (.long j10), .second, .val (.long j12), .second, .val (.long j14), .second, .unset, .unset, .unset, .unset, .unset, .unset, .unset, .unset, .unset, .unset] [(.int i5)])) _
  refine XS.iconst X0.here hx rfl (hb hby at_53) ?_
  show Steps p.tables e below (T0.setTop (mkF m 54 #[.val (.long j0), .second, .val (.long j2), .second, .val (.int i4), .val (.int i5), .val (.long j6), .second, .val (.long j8), .second, .val (.long j10), .second, .val (.long j12), .second, .val (.long j14), .second, .unset, .unset, .unset, .unset, .unset, .unset, .unset, .unset, .unset, .unset] [(.int (1 : Int32)), (.int i5)])) _
  refine XS.iand X0.here hx rfl (hb hby at_54) rfl ?_
  show Steps p.tables e below (T0.setTop (mkF m 55 #[.val (.long j0), .second, .val (.long j2), .second, .val (.int i4), .val (.int i5), .val (.long j6), .second, .val (.long j8), .second, .val (.long j10), .second, .val (.long j12), .second, .val (.long j14), .second, .unset, .unset, .unset, .unset, .unset, .unset, .unset, .unset, .unset, .unset] [(.int (i5 &&& (1 : Int32)))])) _
  refine XS.ifNo X0.here hx rfl (hb hby at_55) rfl ((if0 _ _).trans (teq hc55).2) ?_
  show Steps p.tables e below (T0.setTop (mkF m 58 #[.val (.long j0), .second, .val (.long j2), .second, .val (.int i4), .val (.int i5), .val (.long j6), .second, .val (.long j8), .second, .val (.long j10), .second, .val (.long j12), .second, .val (.long j14), .second, .unset, .unset, .unset, .unset, .unset, .unset, .unset, .unset, .unset, .unset] [])) _
  refine XS.lload X0.here hx rfl (hb hby at_58) rfl ?_
  show Steps p.tables e below (T0.setTop (mkF m 60 #[.val (.long j0), .second, .val (.long j2), .second, .val (.int i4), .val (.int i5), .val (.long j6), .second, .val (.long j8), .second, .val (.long j10), .second, .val (.long j12), .second, .val (.long j14), .second, .unset, .unset, .unset, .unset, .unset, .unset, .unset, .unset, .unset, .unset] [(.long j12)])) _
  refine XS.lloadN X0.here hx rfl (hb hby at_60) rfl ?_
  show Steps p.tables e below (T0.setTop (mkF m 61 #[.val (.long j0), .second, .val (.long j2), .second, .val (.int i4), .val (.int i5), .val (.long j6), .second, .val (.long j8), .second, .val (.long j10), .second, .val (.long j12), .second, .val (.long j14), .second, .unset, .unset, .unset, .unset, .unset, .unset, .unset, .unset, .unset, .unset] [(.long j2), (.long j12)])) _
  refine X0.ldc2Long hx hown (mvT hZ (hw _ (List.mem_of_getElem? (i := 5) rfl))) (g := (mkF m 61 #[.val (.long j0), .second, .val (.long j2), .second, .val (.int i4), .val (.int i5), .val (.long j6), .second, .val (.long j8), .second, .val (.long j10), .second, .val (.long j12), .second, .val (.long j14), .second, .unset, .unset, .unset, .unset, .unset, .unset, .unset, .unset, .unset, .unset] [(.long j2), (.long j12)])) rfl (hb hby at_61) _ ?_
  show Steps p.tables e below (T0.setTop (mkF m 64 #[.val (.long j0), .second, .val (.long j2), .second, .val (.int i4), .val (.int i5), .val (.long j6), .second, .val (.long j8), .second, .val (.long j10), .second, .val (.long j12), .second, .val (.long j14), .second, .unset, .unset, .unset, .unset, .unset, .unset, .unset, .unset, .unset, .unset] [(.long (9223372036854775807 : Int64)), (.long j2), (.long j12)])) _
  refine XS.land X0.here hx rfl (hb hby at_64) rfl ?_
  show Steps p.tables e below (T0.setTop (mkF m 65 #[.val (.long j0), .second, .val (.long j2), .second, .val (.int i4), .val (.int i5), .val (.long j6), .second, .val (.long j8), .second, .val (.long j10), .second, .val (.long j12), .second, .val (.long j14), .second, .unset, .unset, .unset, .unset, .unset, .unset, .unset, .unset, .unset, .unset] [(.long (j2 &&& (9223372036854775807 : Int64))), (.long j12)])) _
  refine XS.lload X0.here hx rfl (hb hby at_65) rfl ?_
  show Steps p.tables e below (T0.setTop (mkF m 67 #[.val (.long j0), .second, .val (.long j2), .second, .val (.int i4), .val (.int i5), .val (.long j6), .second, .val (.long j8), .second, .val (.long j10), .second, .val (.long j12), .second, .val (.long j14), .second, .unset, .unset, .unset, .unset, .unset, .unset, .unset, .unset, .unset, .unset] [(.long j14), (.long (j2 &&& (9223372036854775807 : Int64))), (.long j12)])) _
  refine XS.lrem X0.here hx rfl (hb hby at_67) rfl hnz67 ?_
  rw [lrem_mod]
  show Steps p.tables e below (T0.setTop (mkF m 68 #[.val (.long j0), .second, .val (.long j2), .second, .val (.int i4), .val (.int i5), .val (.long j6), .second, .val (.long j8), .second, .val (.long j10), .second, .val (.long j12), .second, .val (.long j14), .second, .unset, .unset, .unset, .unset, .unset, .unset, .unset, .unset, .unset, .unset] [(.long ((j2 &&& (9223372036854775807 : Int64)) % j14)), (.long j12)])) _
  refine XS.ladd X0.here hx rfl (hb hby at_68) rfl ?_
  show Steps p.tables e below (T0.setTop (mkF m 69 #[.val (.long j0), .second, .val (.long j2), .second, .val (.int i4), .val (.int i5), .val (.long j6), .second, .val (.long j8), .second, .val (.long j10), .second, .val (.long j12), .second, .val (.long j14), .second, .unset, .unset, .unset, .unset, .unset, .unset, .unset, .unset, .unset, .unset] [(.long (j12 + ((j2 &&& (9223372036854775807 : Int64)) % j14)))])) _
  refine XS.lstore X0.here hx rfl (hb hby at_69) rfl (l' := #[.val (.long j0), .second, .val (.long j2), .second, .val (.int i4), .val (.int i5), .val (.long j6), .second, .val (.long j8), .second, .val (.long j10), .second, .val (.long j12), .second, .val (.long j14), .second, .val (.long (j12 + ((j2 &&& (9223372036854775807 : Int64)) % j14))), .second, .unset, .unset, .unset, .unset, .unset, .unset, .unset, .unset]) rfl ?_
  show Steps p.tables e below (T0.setTop (mkF m 71 #[.val (.long j0), .second, .val (.long j2), .second, .val (.int i4), .val (.int i5), .val (.long j6), .second, .val (.long j8), .second, .val (.long j10), .second, .val (.long j12), .second, .val (.long j14), .second, .val (.long (j12 + ((j2 &&& (9223372036854775807 : Int64)) % j14))), .second, .unset, .unset, .unset, .unset, .unset, .unset, .unset, .unset] [])) _
  refine XS.goto X0.here hx rfl (pc0 := 71) (pc' := 117) rfl (hb hby at_71) (by decide) (by decide) ?_
  show Steps p.tables e below (T0.setTop (mkF m 117 #[.val (.long j0), .second, .val (.long j2), .second, .val (.int i4), .val (.int i5), .val (.long j6), .second, .val (.long j8), .second, .val (.long j10), .second, .val (.long j12), .second, .val (.long j14), .second, .val (.long (j12 + ((j2 &&& (9223372036854775807 : Int64)) % j14))), .second, .unset, .unset, .unset, .unset, .unset, .unset, .unset, .unset] [])) _
  refine XS.lload X0.here hx rfl (hb hby at_117) rfl ?_
  show Steps p.tables e below (T0.setTop (mkF m 119 #[.val (.long j0), .second, .val (.long j2), .second, .val (.int i4), .val (.int i5), .val (.long j6), .second, .val (.long j8), .second, .val (.long j10), .second, .val (.long j12), .second, .val (.long j14), .second, .val (.long (j12 + ((j2 &&& (9223372036854775807 : Int64)) % j14))), .second, .unset, .unset, .unset, .unset, .unset, .unset, .unset, .unset] [(.long (j12 + ((j2 &&& (9223372036854775807 : Int64)) % j14)))])) _
  refine XS.lload X0.here hx rfl (hb hby at_119) rfl ?_
  show Steps p.tables e below (T0.setTop (mkF m 121 #[.val (.long j0), .second, .val (.long j2), .second, .val (.int i4), .val (.int i5), .val (.long j6), .second, .val (.long j8), .second, .val (.long j10), .second, .val (.long j12), .second, .val (.long j14), .second, .val (.long (j12 + ((j2 &&& (9223372036854775807 : Int64)) % j14))), .second, .unset, .unset, .unset, .unset, .unset, .unset, .unset, .unset] [(.long j12), (.long (j12 + ((j2 &&& (9223372036854775807 : Int64)) % j14)))])) _
  refine XS.lsub X0.here hx rfl (hb hby at_121) rfl ?_
  show Steps p.tables e below (T0.setTop (mkF m 122 #[.val (.long j0), .second, .val (.long j2), .second, .val (.int i4), .val (.int i5), .val (.long j6), .second, .val (.long j8), .second, .val (.long j10), .second, .val (.long j12), .second, .val (.long j14), .second, .val (.long (j12 + ((j2 &&& (9223372036854775807 : Int64)) % j14))), .second, .unset, .unset, .unset, .unset, .unset, .unset, .unset, .unset] [(.long ((j12 + ((j2 &&& (9223372036854775807 : Int64)) % j14)) - j12))])) _
  refine XS.lconst X0.here hx rfl (hb hby at_122) ?_
  show Steps p.tables e below (T0.setTop (mkF m 123 #[.val (.long j0), .second, .val (.long j2), .second, .val (.int i4), .val (.int i5), .val (.long j6), .second, .val (.long j8), .second, .val (.long j10), .second, .val (.long j12), .second, .val (.long j14), .second, .val (.long (j12 + ((j2 &&& (9223372036854775807 : Int64)) % j14))), .second, .unset, .unset, .unset, .unset, .unset, .unset, .unset, .unset] [(.long (1 : Int64)), (.long ((j12 + ((j2 &&& (9223372036854775807 : Int64)) % j14)) - j12))])) _
  refine XS.ladd X0.here hx rfl (hb hby at_123) rfl ?_
  show Steps p.tables e below (T0.setTop (mkF m 124 #[.val (.long j0), .second, .val (.long j2), .second, .val (.int i4), .val (.int i5), .val (.long j6), .second, .val (.long j8), .second, .val (.long j10), .second, .val (.long j12), .second, .val (.long j14), .second, .val (.long (j12 + ((j2 &&& (9223372036854775807 : Int64)) % j14))), .second, .unset, .unset, .unset, .unset, .unset, .unset, .unset, .unset] [(.long (((j12 + ((j2 &&& (9223372036854775807 : Int64)) % j14)) - j12) + (1 : Int64)))])) _
  refine XS.lstore X0.here hx rfl (hb hby at_124) rfl (l' := #[.val (.long j0), .second, .val (.long j2), .second, .val (.int i4), .val (.int i5), .val (.long j6), .second, .val (.long j8), .second, .val (.long j10), .second, .val (.long j12), .second, .val (.long j14), .second, .val (.long (j12 + ((j2 &&& (9223372036854775807 : Int64)) % j14))), .second, .val (.long (((j12 + ((j2 &&& (9223372036854775807 : Int64)) % j14)) - j12) + (1 : Int64))), .second, .unset, .unset, .unset, .unset, .unset, .unset]) rfl ?_
  exact kt
set_option maxRecDepth 65536 in
set_option maxHeartbeats 40000000 in
theorem sgB_t {p : Program} {l : Launch} {e : Env} {s : State} {m : MethodId} {args : Array Value} {below : List Frame} {meth : Method} {c : Code} {T0 : State} {locs : List Loc} {Z : State} {a0 : Array Value} {h0 : Heap} {n0 : Nat} (j0 : Int64) (j2 : Int64) (i4 : Int32) (i5 : Int32) (j6 : Int64) (j8 : Int64) (j10 : Int64) (j12 : Int64) (j14 : Int64)
    (X0 : Stand p l e room_1 s m args below meth c T0 locs 0 0) (hx : p.tables.exec = Jvm.exec) (hZ : Z.Warmed39 s.vm) (hw : ∀ d ∈ tables_1, d.before a0 Z = true) (hby : c.code = code) (hml : c.maxLocals = 26) (hown : s.vm.findClass "com/example/tab30/tab30/book/SegmentLargestBlockPinLaw" = some m.cls) (e0 : T0.heap = h0) (Z0 : n0 ≤ h0.size) (N0 : Fr n0 locs) (hc55 : ¬ ((i5 &&& (1 : Int32)) = (0 : Int32))) :
    ∃ (T' : State) (h' : Heap) (locs' : List Loc), Stand p l e room_1 s m args below meth c T' locs' 0 0 ∧ T'.heap = h' ∧ Fr n0 locs' ∧ Keep h0 h' [] ∧
      ∀ target, Steps p.tables e below (T'.setTop (mkF m 126 #[.val (.long j0), .second, .val (.long j2), .second, .val (.int i4), .val (.int i5), .val (.long j6), .second, .val (.long j8), .second, .val (.long j10), .second, .val (.long j12), .second, .val (.long j14), .second, .val (.long (j12 + (own_lmax (0 : Int64) (own_lmin (j14 - (1 : Int64)) ((((1 : Int64) <<< (((4 : Int32) * (((i5.toUInt32 >>> ((1 : Int32) &&& 31).toUInt32).toInt32) &&& (15 : Int32))) &&& 0x3f).toInt64) + ((((i5.toUInt32 >>> ((5 : Int32) &&& 31).toUInt32).toInt32) &&& (3 : Int32)).toInt64)) - (2 : Int64)))))), .second, .val (.long (((j12 + (own_lmax (0 : Int64) (own_lmin (j14 - (1 : Int64)) ((((1 : Int64) <<< (((4 : Int32) * (((i5.toUInt32 >>> ((1 : Int32) &&& 31).toUInt32).toInt32) &&& (15 : Int32))) &&& 0x3f).toInt64) + ((((i5.toUInt32 >>> ((5 : Int32) &&& 31).toUInt32).toInt32) &&& (3 : Int32)).toInt64)) - (2 : Int64))))) - j12) + (1 : Int64))), .second, .unset, .unset, .unset, .unset, .unset, .unset] [])) target → Steps p.tables e below (T0.setTop (mkF m 51 #[.val (.long j0), .second, .val (.long j2), .second, .val (.int i4), .val (.int i5), .val (.long j6), .second, .val (.long j8), .second, .val (.long j10), .second, .val (.long j12), .second, .val (.long j14), .second, .unset, .unset, .unset, .unset, .unset, .unset, .unset, .unset, .unset, .unset] [])) target := by
  obtain ⟨_, _, ⟨T5, L5, k5, n5⟩, -, X5, ⟨Lc5, hQ5, l5, y5, z5⟩, st5⟩ := Jvm.LawKit.callS X0 hx (y := (⟨"java/lang/Math", "min", "(JJ)J"⟩ : MethodName)) hown (mvT hZ (hw _ (List.mem_of_getElem? (i := 7) rfl))) (mvT hZ (hw _ (List.mem_of_getElem? (i := 8) rfl))) (mvT hZ (hw _ (List.mem_of_getElem? (i := 3) rfl))) (mvT hZ (hw _ (List.mem_of_getElem? (i := 9) rfl))) (by decide) (backOf (W := 4) (rm2 l Z a0 hw [] (j14 - (1 : Int64)) ((((1 : Int64) <<< (((4 : Int32) * (((i5.toUInt32 >>> ((1 : Int32) &&& 31).toUInt32).toInt32) &&& (15 : Int32))) &&& 0x3f).toInt64) + ((((i5.toUInt32 >>> ((5 : Int32) &&& 31).toUInt32).toInt32) &&& (3 : Int32)).toInt64)) - (2 : Int64)) h0 n0 Z0) hZ (hw _ (List.mem_of_getElem? (i := 9) rfl)) (hw _ (List.mem_of_getElem? (i := 3) rfl)) (by decide) (by decide)) (g := (mkF m 108 #[.val (.long j0), .second, .val (.long j2), .second, .val (.int i4), .val (.int i5), .val (.long j6), .second, .val (.long j8), .second, .val (.long j10), .second, .val (.long j12), .second, .val (.long j14), .second, .unset, .unset, .val (.long ((((1 : Int64) <<< (((4 : Int32) * (((i5.toUInt32 >>> ((1 : Int32) &&& 31).toUInt32).toInt32) &&& (15 : Int32))) &&& 0x3f).toInt64) + ((((i5.toUInt32 >>> ((5 : Int32) &&& 31).toUInt32).toInt32) &&& (3 : Int32)).toInt64)) - (2 : Int64))), .second, .unset, .unset, .unset, .unset, .unset, .unset] [(.long ((((1 : Int64) <<< (((4 : Int32) * (((i5.toUInt32 >>> ((1 : Int32) &&& 31).toUInt32).toInt32) &&& (15 : Int32))) &&& 0x3f).toInt64) + ((((i5.toUInt32 >>> ((5 : Int32) &&& 31).toUInt32).toInt32) &&& (3 : Int32)).toInt64)) - (2 : Int64))), (.long (j14 - (1 : Int64))), (.long (0 : Int64)), (.long j12)])) rfl (by rw [hml]; rfl) (argsL := [(.long (j14 - (1 : Int64))), (.long ((((1 : Int64) <<< (((4 : Int32) * (((i5.toUInt32 >>> ((1 : Int32) &&& 31).toUInt32).toInt32) &&& (15 : Int32))) &&& 0x3f).toInt64) + ((((i5.toUInt32 >>> ((5 : Int32) &&& 31).toUInt32).toInt32) &&& (3 : Int32)).toInt64)) - (2 : Int64)))]) (rest := [(.long (0 : Int64)), (.long j12)]) (lenOf pd_0_0 rfl) rfl (by show 2 * 0 + _ ≤ _; exact Nat.le_of_eq rfl) (hb hby at_108) (fun _ _ => ⟨rfl, e0, (Nat.le_of_ble_eq_true rfl), (Nat.le_of_ble_eq_true rfl)⟩)
  dsimp only [Pt.U, Pt.locs, Pt.cells, Pt.slots] at X5 l5 y5 z5 st5 hQ5
  subst l5 y5 z5
  obtain ⟨rfl, N5q, h5q⟩ := hQ5
  have Kq5 : Keep h0 T5.heap [] := by rw [h5q]; exact Keep.refl _ _
  have K5 : Keep h0 T5.heap [] := (Keep.refl h0 []).trans Kq5 (fun _ q => nomatch q)
  have N5 := Fr.app N0 N5q
  obtain ⟨_, _, ⟨T6, L6, k6, n6⟩, -, X6, ⟨Lc6, hQ6, l6, y6, z6⟩, st6⟩ := Jvm.LawKit.callS X5 hx (y := (⟨"java/lang/Math", "max", "(JJ)J"⟩ : MethodName)) hown (mvT hZ (hw _ (List.mem_of_getElem? (i := 1) rfl))) (mvT hZ (hw _ (List.mem_of_getElem? (i := 2) rfl))) (mvT hZ (hw _ (List.mem_of_getElem? (i := 3) rfl))) (mvT hZ (hw _ (List.mem_of_getElem? (i := 4) rfl))) (by decide) (backOf (W := 2) (rm1 l Z a0 hw [] (0 : Int64) (own_lmin (j14 - (1 : Int64)) ((((1 : Int64) <<< (((4 : Int32) * (((i5.toUInt32 >>> ((1 : Int32) &&& 31).toUInt32).toInt32) &&& (15 : Int32))) &&& 0x3f).toInt64) + ((((i5.toUInt32 >>> ((5 : Int32) &&& 31).toUInt32).toInt32) &&& (3 : Int32)).toInt64)) - (2 : Int64))) T5.heap n0 (Nat.le_trans Z0 K5.1)) hZ (hw _ (List.mem_of_getElem? (i := 4) rfl)) (hw _ (List.mem_of_getElem? (i := 3) rfl)) (by decide) (by decide)) (g := (mkF m 111 #[.val (.long j0), .second, .val (.long j2), .second, .val (.int i4), .val (.int i5), .val (.long j6), .second, .val (.long j8), .second, .val (.long j10), .second, .val (.long j12), .second, .val (.long j14), .second, .unset, .unset, .val (.long ((((1 : Int64) <<< (((4 : Int32) * (((i5.toUInt32 >>> ((1 : Int32) &&& 31).toUInt32).toInt32) &&& (15 : Int32))) &&& 0x3f).toInt64) + ((((i5.toUInt32 >>> ((5 : Int32) &&& 31).toUInt32).toInt32) &&& (3 : Int32)).toInt64)) - (2 : Int64))), .second, .unset, .unset, .unset, .unset, .unset, .unset] [(.long (own_lmin (j14 - (1 : Int64)) ((((1 : Int64) <<< (((4 : Int32) * (((i5.toUInt32 >>> ((1 : Int32) &&& 31).toUInt32).toInt32) &&& (15 : Int32))) &&& 0x3f).toInt64) + ((((i5.toUInt32 >>> ((5 : Int32) &&& 31).toUInt32).toInt32) &&& (3 : Int32)).toInt64)) - (2 : Int64)))), (.long (0 : Int64)), (.long j12)])) rfl (by rw [hml]; rfl) (argsL := [(.long (0 : Int64)), (.long (own_lmin (j14 - (1 : Int64)) ((((1 : Int64) <<< (((4 : Int32) * (((i5.toUInt32 >>> ((1 : Int32) &&& 31).toUInt32).toInt32) &&& (15 : Int32))) &&& 0x3f).toInt64) + ((((i5.toUInt32 >>> ((5 : Int32) &&& 31).toUInt32).toInt32) &&& (3 : Int32)).toInt64)) - (2 : Int64))))]) (rest := [(.long j12)]) (lenOf pd_0_0 rfl) rfl (by show 2 * 0 + _ ≤ _; exact Nat.le_of_eq rfl) (hb hby at_111) (fun _ _ => ⟨rfl, rfl, (Nat.le_of_ble_eq_true rfl), (Nat.le_of_ble_eq_true rfl)⟩)
  dsimp only [Pt.U, Pt.locs, Pt.cells, Pt.slots] at X6 l6 y6 z6 st6 hQ6
  subst l6 y6 z6
  obtain ⟨rfl, N6q, h6q⟩ := hQ6
  have Kq6 : Keep T5.heap T6.heap [] := by rw [h6q]; exact Keep.refl _ _
  have K6 : Keep h0 T6.heap [] := K5.trans Kq6 (fun _ q => nomatch q)
  have N6 := Fr.app N5 N6q
  refine ⟨T6, _, _, X6, rfl, N6, K6, fun target kt => ?_⟩
  show Steps p.tables e below (T0.setTop (mkF m 51 #[.val (.long j0), .second, .val (.long j2), .second, .val (.int i4), .val (.int i5), .val (.long j6), .second, .val (.long j8), .second, .val (.long j10), .second, .val (.long j12), .second, .val (.long j14), .second, .unset, .unset, .unset, .unset, .unset, .unset, .unset, .unset, .unset, .unset] [])) _
  refine XS.iload X0.here hx rfl (hb hby at_51) rfl ?_
  show Steps p.tables e below (T0.setTop (mkF m 53 #[.val (.long j0), .second, .val (.long j2), .second, .val (.int i4), .val (.int i5), .val (.long j6), .second, .val (.long j8), .second, .val (.long j10), .second, .val (.long j12), .second, .val (.long j14), .second, .unset, .unset, .unset, .unset, .unset, .unset, .unset, .unset, .unset, .unset] [(.int i5)])) _
  refine XS.iconst X0.here hx rfl (hb hby at_53) ?_
  show Steps p.tables e below (T0.setTop (mkF m 54 #[.val (.long j0), .second, .val (.long j2), .second, .val (.int i4), .val (.int i5), .val (.long j6), .second, .val (.long j8), .second, .val (.long j10), .second, .val (.long j12), .second, .val (.long j14), .second, .unset, .unset, .unset, .unset, .unset, .unset, .unset, .unset, .unset, .unset] [(.int (1 : Int32)), (.int i5)])) _
  refine XS.iand X0.here hx rfl (hb hby at_54) rfl ?_
  show Steps p.tables e below (T0.setTop (mkF m 55 #[.val (.long j0), .second, .val (.long j2), .second, .val (.int i4), .val (.int i5), .val (.long j6), .second, .val (.long j8), .second, .val (.long j10), .second, .val (.long j12), .second, .val (.long j14), .second, .unset, .unset, .unset, .unset, .unset, .unset, .unset, .unset, .unset, .unset] [(.int (i5 &&& (1 : Int32)))])) _
  refine XS.ifYes X0.here hx rfl (pc0 := 55) (pc' := 74) rfl (hb hby at_55) rfl ((if0 _ _).trans (feq hc55).2) (by decide) (by decide) ?_
  show Steps p.tables e below (T0.setTop (mkF m 74 #[.val (.long j0), .second, .val (.long j2), .second, .val (.int i4), .val (.int i5), .val (.long j6), .second, .val (.long j8), .second, .val (.long j10), .second, .val (.long j12), .second, .val (.long j14), .second, .unset, .unset, .unset, .unset, .unset, .unset, .unset, .unset, .unset, .unset] [])) _
  refine XS.lconst X0.here hx rfl (hb hby at_74) ?_
  show Steps p.tables e below (T0.setTop (mkF m 75 #[.val (.long j0), .second, .val (.long j2), .second, .val (.int i4), .val (.int i5), .val (.long j6), .second, .val (.long j8), .second, .val (.long j10), .second, .val (.long j12), .second, .val (.long j14), .second, .unset, .unset, .unset, .unset, .unset, .unset, .unset, .unset, .unset, .unset] [(.long (1 : Int64))])) _
  refine XS.iconst X0.here hx rfl (hb hby at_75) ?_
  show Steps p.tables e below (T0.setTop (mkF m 76 #[.val (.long j0), .second, .val (.long j2), .second, .val (.int i4), .val (.int i5), .val (.long j6), .second, .val (.long j8), .second, .val (.long j10), .second, .val (.long j12), .second, .val (.long j14), .second, .unset, .unset, .unset, .unset, .unset, .unset, .unset, .unset, .unset, .unset] [(.int (4 : Int32)), (.long (1 : Int64))])) _
  refine XS.iload X0.here hx rfl (hb hby at_76) rfl ?_
  show Steps p.tables e below (T0.setTop (mkF m 78 #[.val (.long j0), .second, .val (.long j2), .second, .val (.int i4), .val (.int i5), .val (.long j6), .second, .val (.long j8), .second, .val (.long j10), .second, .val (.long j12), .second, .val (.long j14), .second, .unset, .unset, .unset, .unset, .unset, .unset, .unset, .unset, .unset, .unset] [(.int i5), (.int (4 : Int32)), (.long (1 : Int64))])) _
  refine XS.iconst X0.here hx rfl (hb hby at_78) ?_
  show Steps p.tables e below (T0.setTop (mkF m 79 #[.val (.long j0), .second, .val (.long j2), .second, .val (.int i4), .val (.int i5), .val (.long j6), .second, .val (.long j8), .second, .val (.long j10), .second, .val (.long j12), .second, .val (.long j14), .second, .unset, .unset, .unset, .unset, .unset, .unset, .unset, .unset, .unset, .unset] [(.int (1 : Int32)), (.int i5), (.int (4 : Int32)), (.long (1 : Int64))])) _
  refine XS.iushr X0.here hx rfl (hb hby at_79) rfl ?_
  show Steps p.tables e below (T0.setTop (mkF m 80 #[.val (.long j0), .second, .val (.long j2), .second, .val (.int i4), .val (.int i5), .val (.long j6), .second, .val (.long j8), .second, .val (.long j10), .second, .val (.long j12), .second, .val (.long j14), .second, .unset, .unset, .unset, .unset, .unset, .unset, .unset, .unset, .unset, .unset] [(.int ((i5.toUInt32 >>> ((1 : Int32) &&& 31).toUInt32).toInt32)), (.int (4 : Int32)), (.long (1 : Int64))])) _
  refine XS.bipush X0.here hx rfl (hb hby at_80) ?_
  show Steps p.tables e below (T0.setTop (mkF m 82 #[.val (.long j0), .second, .val (.long j2), .second, .val (.int i4), .val (.int i5), .val (.long j6), .second, .val (.long j8), .second, .val (.long j10), .second, .val (.long j12), .second, .val (.long j14), .second, .unset, .unset, .unset, .unset, .unset, .unset, .unset, .unset, .unset, .unset] [(.int (15 : Int32)), (.int ((i5.toUInt32 >>> ((1 : Int32) &&& 31).toUInt32).toInt32)), (.int (4 : Int32)), (.long (1 : Int64))])) _
  refine XS.iand X0.here hx rfl (hb hby at_82) rfl ?_
  show Steps p.tables e below (T0.setTop (mkF m 83 #[.val (.long j0), .second, .val (.long j2), .second, .val (.int i4), .val (.int i5), .val (.long j6), .second, .val (.long j8), .second, .val (.long j10), .second, .val (.long j12), .second, .val (.long j14), .second, .unset, .unset, .unset, .unset, .unset, .unset, .unset, .unset, .unset, .unset] [(.int (((i5.toUInt32 >>> ((1 : Int32) &&& 31).toUInt32).toInt32) &&& (15 : Int32))), (.int (4 : Int32)), (.long (1 : Int64))])) _
  refine XS.imul X0.here hx rfl (hb hby at_83) rfl ?_
  show Steps p.tables e below (T0.setTop (mkF m 84 #[.val (.long j0), .second, .val (.long j2), .second, .val (.int i4), .val (.int i5), .val (.long j6), .second, .val (.long j8), .second, .val (.long j10), .second, .val (.long j12), .second, .val (.long j14), .second, .unset, .unset, .unset, .unset, .unset, .unset, .unset, .unset, .unset, .unset] [(.int ((4 : Int32) * (((i5.toUInt32 >>> ((1 : Int32) &&& 31).toUInt32).toInt32) &&& (15 : Int32)))), (.long (1 : Int64))])) _
  refine XS.lshl X0.here hx rfl (hb hby at_84) rfl ?_
  show Steps p.tables e below (T0.setTop (mkF m 85 #[.val (.long j0), .second, .val (.long j2), .second, .val (.int i4), .val (.int i5), .val (.long j6), .second, .val (.long j8), .second, .val (.long j10), .second, .val (.long j12), .second, .val (.long j14), .second, .unset, .unset, .unset, .unset, .unset, .unset, .unset, .unset, .unset, .unset] [(.long ((1 : Int64) <<< (((4 : Int32) * (((i5.toUInt32 >>> ((1 : Int32) &&& 31).toUInt32).toInt32) &&& (15 : Int32))) &&& 0x3f).toInt64))])) _
  refine XS.iload X0.here hx rfl (hb hby at_85) rfl ?_
  show Steps p.tables e below (T0.setTop (mkF m 87 #[.val (.long j0), .second, .val (.long j2), .second, .val (.int i4), .val (.int i5), .val (.long j6), .second, .val (.long j8), .second, .val (.long j10), .second, .val (.long j12), .second, .val (.long j14), .second, .unset, .unset, .unset, .unset, .unset, .unset, .unset, .unset, .unset, .unset] [(.int i5), (.long ((1 : Int64) <<< (((4 : Int32) * (((i5.toUInt32 >>> ((1 : Int32) &&& 31).toUInt32).toInt32) &&& (15 : Int32))) &&& 0x3f).toInt64))])) _
  refine XS.iconst X0.here hx rfl (hb hby at_87) ?_
  show Steps p.tables e below (T0.setTop (mkF m 88 #[.val (.long j0), .second, .val (.long j2), .second, .val (.int i4), .val (.int i5), .val (.long j6), .second, .val (.long j8), .second, .val (.long j10), .second, .val (.long j12), .second, .val (.long j14), .second, .unset, .unset, .unset, .unset, .unset, .unset, .unset, .unset, .unset, .unset] [(.int (5 : Int32)), (.int i5), (.long ((1 : Int64) <<< (((4 : Int32) * (((i5.toUInt32 >>> ((1 : Int32) &&& 31).toUInt32).toInt32) &&& (15 : Int32))) &&& 0x3f).toInt64))])) _
  refine XS.iushr X0.here hx rfl (hb hby at_88) rfl ?_
  show Steps p.tables e below (T0.setTop (mkF m 89 #[.val (.long j0), .second, .val (.long j2), .second, .val (.int i4), .val (.int i5), .val (.long j6), .second, .val (.long j8), .second, .val (.long j10), .second, .val (.long j12), .second, .val (.long j14), .second, .unset, .unset, .unset, .unset, .unset, .unset, .unset, .unset, .unset, .unset] [(.int ((i5.toUInt32 >>> ((5 : Int32) &&& 31).toUInt32).toInt32)), (.long ((1 : Int64) <<< (((4 : Int32) * (((i5.toUInt32 >>> ((1 : Int32) &&& 31).toUInt32).toInt32) &&& (15 : Int32))) &&& 0x3f).toInt64))])) _
  refine XS.iconst X0.here hx rfl (hb hby at_89) ?_
  show Steps p.tables e below (T0.setTop (mkF m 90 #[.val (.long j0), .second, .val (.long j2), .second, .val (.int i4), .val (.int i5), .val (.long j6), .second, .val (.long j8), .second, .val (.long j10), .second, .val (.long j12), .second, .val (.long j14), .second, .unset, .unset, .unset, .unset, .unset, .unset, .unset, .unset, .unset, .unset] [(.int (3 : Int32)), (.int ((i5.toUInt32 >>> ((5 : Int32) &&& 31).toUInt32).toInt32)), (.long ((1 : Int64) <<< (((4 : Int32) * (((i5.toUInt32 >>> ((1 : Int32) &&& 31).toUInt32).toInt32) &&& (15 : Int32))) &&& 0x3f).toInt64))])) _
  refine XS.iand X0.here hx rfl (hb hby at_90) rfl ?_
  show Steps p.tables e below (T0.setTop (mkF m 91 #[.val (.long j0), .second, .val (.long j2), .second, .val (.int i4), .val (.int i5), .val (.long j6), .second, .val (.long j8), .second, .val (.long j10), .second, .val (.long j12), .second, .val (.long j14), .second, .unset, .unset, .unset, .unset, .unset, .unset, .unset, .unset, .unset, .unset] [(.int (((i5.toUInt32 >>> ((5 : Int32) &&& 31).toUInt32).toInt32) &&& (3 : Int32))), (.long ((1 : Int64) <<< (((4 : Int32) * (((i5.toUInt32 >>> ((1 : Int32) &&& 31).toUInt32).toInt32) &&& (15 : Int32))) &&& 0x3f).toInt64))])) _
  refine XS.i2l X0.here hx rfl (hb hby at_91) rfl ?_
  show Steps p.tables e below (T0.setTop (mkF m 92 #[.val (.long j0), .second, .val (.long j2), .second, .val (.int i4), .val (.int i5), .val (.long j6), .second, .val (.long j8), .second, .val (.long j10), .second, .val (.long j12), .second, .val (.long j14), .second, .unset, .unset, .unset, .unset, .unset, .unset, .unset, .unset, .unset, .unset] [(.long ((((i5.toUInt32 >>> ((5 : Int32) &&& 31).toUInt32).toInt32) &&& (3 : Int32)).toInt64)), (.long ((1 : Int64) <<< (((4 : Int32) * (((i5.toUInt32 >>> ((1 : Int32) &&& 31).toUInt32).toInt32) &&& (15 : Int32))) &&& 0x3f).toInt64))])) _
  refine XS.ladd X0.here hx rfl (hb hby at_92) rfl ?_
  show Steps p.tables e below (T0.setTop (mkF m 93 #[.val (.long j0), .second, .val (.long j2), .second, .val (.int i4), .val (.int i5), .val (.long j6), .second, .val (.long j8), .second, .val (.long j10), .second, .val (.long j12), .second, .val (.long j14), .second, .unset, .unset, .unset, .unset, .unset, .unset, .unset, .unset, .unset, .unset] [(.long (((1 : Int64) <<< (((4 : Int32) * (((i5.toUInt32 >>> ((1 : Int32) &&& 31).toUInt32).toInt32) &&& (15 : Int32))) &&& 0x3f).toInt64) + ((((i5.toUInt32 >>> ((5 : Int32) &&& 31).toUInt32).toInt32) &&& (3 : Int32)).toInt64)))])) _
  refine X0.ldc2Long hx hown (mvT hZ (hw _ (List.mem_of_getElem? (i := 6) rfl))) (g := (mkF m 93 #[.val (.long j0), .second, .val (.long j2), .second, .val (.int i4), .val (.int i5), .val (.long j6), .second, .val (.long j8), .second, .val (.long j10), .second, .val (.long j12), .second, .val (.long j14), .second, .unset, .unset, .unset, .unset, .unset, .unset, .unset, .unset, .unset, .unset] [(.long (((1 : Int64) <<< (((4 : Int32) * (((i5.toUInt32 >>> ((1 : Int32) &&& 31).toUInt32).toInt32) &&& (15 : Int32))) &&& 0x3f).toInt64) + ((((i5.toUInt32 >>> ((5 : Int32) &&& 31).toUInt32).toInt32) &&& (3 : Int32)).toInt64)))])) rfl (hb hby at_93) _ ?_
  show Steps p.tables e below (T0.setTop (mkF m 96 #[.val (.long j0), .second, .val (.long j2), .second, .val (.int i4), .val (.int i5), .val (.long j6), .second, .val (.long j8), .second, .val (.long j10), .second, .val (.long j12), .second, .val (.long j14), .second, .unset, .unset, .unset, .unset, .unset, .unset, .unset, .unset, .unset, .unset] [(.long (2 : Int64)), (.long (((1 : Int64) <<< (((4 : Int32) * (((i5.toUInt32 >>> ((1 : Int32) &&& 31).toUInt32).toInt32) &&& (15 : Int32))) &&& 0x3f).toInt64) + ((((i5.toUInt32 >>> ((5 : Int32) &&& 31).toUInt32).toInt32) &&& (3 : Int32)).toInt64)))])) _
  refine XS.lsub X0.here hx rfl (hb hby at_96) rfl ?_
  show Steps p.tables e below (T0.setTop (mkF m 97 #[.val (.long j0), .second, .val (.long j2), .second, .val (.int i4), .val (.int i5), .val (.long j6), .second, .val (.long j8), .second, .val (.long j10), .second, .val (.long j12), .second, .val (.long j14), .second, .unset, .unset, .unset, .unset, .unset, .unset, .unset, .unset, .unset, .unset] [(.long ((((1 : Int64) <<< (((4 : Int32) * (((i5.toUInt32 >>> ((1 : Int32) &&& 31).toUInt32).toInt32) &&& (15 : Int32))) &&& 0x3f).toInt64) + ((((i5.toUInt32 >>> ((5 : Int32) &&& 31).toUInt32).toInt32) &&& (3 : Int32)).toInt64)) - (2 : Int64)))])) _
  refine XS.lstore X0.here hx rfl (hb hby at_97) rfl (l' := #[.val (.long j0), .second, .val (.long j2), .second, .val (.int i4), .val (.int i5), .val (.long j6), .second, .val (.long j8), .second, .val (.long j10), .second, .val (.long j12), .second, .val (.long j14), .second, .unset, .unset, .val (.long ((((1 : Int64) <<< (((4 : Int32) * (((i5.toUInt32 >>> ((1 : Int32) &&& 31).toUInt32).toInt32) &&& (15 : Int32))) &&& 0x3f).toInt64) + ((((i5.toUInt32 >>> ((5 : Int32) &&& 31).toUInt32).toInt32) &&& (3 : Int32)).toInt64)) - (2 : Int64))), .second, .unset, .unset, .unset, .unset, .unset, .unset]) rfl ?_
  show Steps p.tables e below (T0.setTop (mkF m 99 #[.val (.long j0), .second, .val (.long j2), .second, .val (.int i4), .val (.int i5), .val (.long j6), .second, .val (.long j8), .second, .val (.long j10), .second, .val (.long j12), .second, .val (.long j14), .second, .unset, .unset, .val (.long ((((1 : Int64) <<< (((4 : Int32) * (((i5.toUInt32 >>> ((1 : Int32) &&& 31).toUInt32).toInt32) &&& (15 : Int32))) &&& 0x3f).toInt64) + ((((i5.toUInt32 >>> ((5 : Int32) &&& 31).toUInt32).toInt32) &&& (3 : Int32)).toInt64)) - (2 : Int64))), .second, .unset, .unset, .unset, .unset, .unset, .unset] [])) _
  refine XS.lload X0.here hx rfl (hb hby at_99) rfl ?_
  show Steps p.tables e below (T0.setTop (mkF m 101 #[.val (.long j0), .second, .val (.long j2), .second, .val (.int i4), .val (.int i5), .val (.long j6), .second, .val (.long j8), .second, .val (.long j10), .second, .val (.long j12), .second, .val (.long j14), .second, .unset, .unset, .val (.long ((((1 : Int64) <<< (((4 : Int32) * (((i5.toUInt32 >>> ((1 : Int32) &&& 31).toUInt32).toInt32) &&& (15 : Int32))) &&& 0x3f).toInt64) + ((((i5.toUInt32 >>> ((5 : Int32) &&& 31).toUInt32).toInt32) &&& (3 : Int32)).toInt64)) - (2 : Int64))), .second, .unset, .unset, .unset, .unset, .unset, .unset] [(.long j12)])) _
  refine XS.lconst X0.here hx rfl (hb hby at_101) ?_
  show Steps p.tables e below (T0.setTop (mkF m 102 #[.val (.long j0), .second, .val (.long j2), .second, .val (.int i4), .val (.int i5), .val (.long j6), .second, .val (.long j8), .second, .val (.long j10), .second, .val (.long j12), .second, .val (.long j14), .second, .unset, .unset, .val (.long ((((1 : Int64) <<< (((4 : Int32) * (((i5.toUInt32 >>> ((1 : Int32) &&& 31).toUInt32).toInt32) &&& (15 : Int32))) &&& 0x3f).toInt64) + ((((i5.toUInt32 >>> ((5 : Int32) &&& 31).toUInt32).toInt32) &&& (3 : Int32)).toInt64)) - (2 : Int64))), .second, .unset, .unset, .unset, .unset, .unset, .unset] [(.long (0 : Int64)), (.long j12)])) _
  refine XS.lload X0.here hx rfl (hb hby at_102) rfl ?_
  show Steps p.tables e below (T0.setTop (mkF m 104 #[.val (.long j0), .second, .val (.long j2), .second, .val (.int i4), .val (.int i5), .val (.long j6), .second, .val (.long j8), .second, .val (.long j10), .second, .val (.long j12), .second, .val (.long j14), .second, .unset, .unset, .val (.long ((((1 : Int64) <<< (((4 : Int32) * (((i5.toUInt32 >>> ((1 : Int32) &&& 31).toUInt32).toInt32) &&& (15 : Int32))) &&& 0x3f).toInt64) + ((((i5.toUInt32 >>> ((5 : Int32) &&& 31).toUInt32).toInt32) &&& (3 : Int32)).toInt64)) - (2 : Int64))), .second, .unset, .unset, .unset, .unset, .unset, .unset] [(.long j14), (.long (0 : Int64)), (.long j12)])) _
  refine XS.lconst X0.here hx rfl (hb hby at_104) ?_
  show Steps p.tables e below (T0.setTop (mkF m 105 #[.val (.long j0), .second, .val (.long j2), .second, .val (.int i4), .val (.int i5), .val (.long j6), .second, .val (.long j8), .second, .val (.long j10), .second, .val (.long j12), .second, .val (.long j14), .second, .unset, .unset, .val (.long ((((1 : Int64) <<< (((4 : Int32) * (((i5.toUInt32 >>> ((1 : Int32) &&& 31).toUInt32).toInt32) &&& (15 : Int32))) &&& 0x3f).toInt64) + ((((i5.toUInt32 >>> ((5 : Int32) &&& 31).toUInt32).toInt32) &&& (3 : Int32)).toInt64)) - (2 : Int64))), .second, .unset, .unset, .unset, .unset, .unset, .unset] [(.long (1 : Int64)), (.long j14), (.long (0 : Int64)), (.long j12)])) _
  refine XS.lsub X0.here hx rfl (hb hby at_105) rfl ?_
  show Steps p.tables e below (T0.setTop (mkF m 106 #[.val (.long j0), .second, .val (.long j2), .second, .val (.int i4), .val (.int i5), .val (.long j6), .second, .val (.long j8), .second, .val (.long j10), .second, .val (.long j12), .second, .val (.long j14), .second, .unset, .unset, .val (.long ((((1 : Int64) <<< (((4 : Int32) * (((i5.toUInt32 >>> ((1 : Int32) &&& 31).toUInt32).toInt32) &&& (15 : Int32))) &&& 0x3f).toInt64) + ((((i5.toUInt32 >>> ((5 : Int32) &&& 31).toUInt32).toInt32) &&& (3 : Int32)).toInt64)) - (2 : Int64))), .second, .unset, .unset, .unset, .unset, .unset, .unset] [(.long (j14 - (1 : Int64))), (.long (0 : Int64)), (.long j12)])) _
  refine XS.lload X0.here hx rfl (hb hby at_106) rfl ?_
  show Steps p.tables e below (T0.setTop (mkF m 108 #[.val (.long j0), .second, .val (.long j2), .second, .val (.int i4), .val (.int i5), .val (.long j6), .second, .val (.long j8), .second, .val (.long j10), .second, .val (.long j12), .second, .val (.long j14), .second, .unset, .unset, .val (.long ((((1 : Int64) <<< (((4 : Int32) * (((i5.toUInt32 >>> ((1 : Int32) &&& 31).toUInt32).toInt32) &&& (15 : Int32))) &&& 0x3f).toInt64) + ((((i5.toUInt32 >>> ((5 : Int32) &&& 31).toUInt32).toInt32) &&& (3 : Int32)).toInt64)) - (2 : Int64))), .second, .unset, .unset, .unset, .unset, .unset, .unset] [(.long ((((1 : Int64) <<< (((4 : Int32) * (((i5.toUInt32 >>> ((1 : Int32) &&& 31).toUInt32).toInt32) &&& (15 : Int32))) &&& 0x3f).toInt64) + ((((i5.toUInt32 >>> ((5 : Int32) &&& 31).toUInt32).toInt32) &&& (3 : Int32)).toInt64)) - (2 : Int64))), (.long (j14 - (1 : Int64))), (.long (0 : Int64)), (.long j12)])) _
  refine st5 _ ?_
  show Steps p.tables e below (T5.setTop (mkF m 111 #[.val (.long j0), .second, .val (.long j2), .second, .val (.int i4), .val (.int i5), .val (.long j6), .second, .val (.long j8), .second, .val (.long j10), .second, .val (.long j12), .second, .val (.long j14), .second, .unset, .unset, .val (.long ((((1 : Int64) <<< (((4 : Int32) * (((i5.toUInt32 >>> ((1 : Int32) &&& 31).toUInt32).toInt32) &&& (15 : Int32))) &&& 0x3f).toInt64) + ((((i5.toUInt32 >>> ((5 : Int32) &&& 31).toUInt32).toInt32) &&& (3 : Int32)).toInt64)) - (2 : Int64))), .second, .unset, .unset, .unset, .unset, .unset, .unset] [(.long (own_lmin (j14 - (1 : Int64)) ((((1 : Int64) <<< (((4 : Int32) * (((i5.toUInt32 >>> ((1 : Int32) &&& 31).toUInt32).toInt32) &&& (15 : Int32))) &&& 0x3f).toInt64) + ((((i5.toUInt32 >>> ((5 : Int32) &&& 31).toUInt32).toInt32) &&& (3 : Int32)).toInt64)) - (2 : Int64)))), (.long (0 : Int64)), (.long j12)])) _
  refine st6 _ ?_
  show Steps p.tables e below (T6.setTop (mkF m 114 #[.val (.long j0), .second, .val (.long j2), .second, .val (.int i4), .val (.int i5), .val (.long j6), .second, .val (.long j8), .second, .val (.long j10), .second, .val (.long j12), .second, .val (.long j14), .second, .unset, .unset, .val (.long ((((1 : Int64) <<< (((4 : Int32) * (((i5.toUInt32 >>> ((1 : Int32) &&& 31).toUInt32).toInt32) &&& (15 : Int32))) &&& 0x3f).toInt64) + ((((i5.toUInt32 >>> ((5 : Int32) &&& 31).toUInt32).toInt32) &&& (3 : Int32)).toInt64)) - (2 : Int64))), .second, .unset, .unset, .unset, .unset, .unset, .unset] [(.long (own_lmax (0 : Int64) (own_lmin (j14 - (1 : Int64)) ((((1 : Int64) <<< (((4 : Int32) * (((i5.toUInt32 >>> ((1 : Int32) &&& 31).toUInt32).toInt32) &&& (15 : Int32))) &&& 0x3f).toInt64) + ((((i5.toUInt32 >>> ((5 : Int32) &&& 31).toUInt32).toInt32) &&& (3 : Int32)).toInt64)) - (2 : Int64))))), (.long j12)])) _
  refine XS.ladd X6.here hx rfl (hb hby at_114) rfl ?_
  show Steps p.tables e below (T6.setTop (mkF m 115 #[.val (.long j0), .second, .val (.long j2), .second, .val (.int i4), .val (.int i5), .val (.long j6), .second, .val (.long j8), .second, .val (.long j10), .second, .val (.long j12), .second, .val (.long j14), .second, .unset, .unset, .val (.long ((((1 : Int64) <<< (((4 : Int32) * (((i5.toUInt32 >>> ((1 : Int32) &&& 31).toUInt32).toInt32) &&& (15 : Int32))) &&& 0x3f).toInt64) + ((((i5.toUInt32 >>> ((5 : Int32) &&& 31).toUInt32).toInt32) &&& (3 : Int32)).toInt64)) - (2 : Int64))), .second, .unset, .unset, .unset, .unset, .unset, .unset] [(.long (j12 + (own_lmax (0 : Int64) (own_lmin (j14 - (1 : Int64)) ((((1 : Int64) <<< (((4 : Int32) * (((i5.toUInt32 >>> ((1 : Int32) &&& 31).toUInt32).toInt32) &&& (15 : Int32))) &&& 0x3f).toInt64) + ((((i5.toUInt32 >>> ((5 : Int32) &&& 31).toUInt32).toInt32) &&& (3 : Int32)).toInt64)) - (2 : Int64))))))])) _
  refine XS.lstore X6.here hx rfl (hb hby at_115) rfl (l' := #[.val (.long j0), .second, .val (.long j2), .second, .val (.int i4), .val (.int i5), .val (.long j6), .second, .val (.long j8), .second, .val (.long j10), .second, .val (.long j12), .second, .val (.long j14), .second, .val (.long (j12 + (own_lmax (0 : Int64) (own_lmin (j14 - (1 : Int64)) ((((1 : Int64) <<< (((4 : Int32) * (((i5.toUInt32 >>> ((1 : Int32) &&& 31).toUInt32).toInt32) &&& (15 : Int32))) &&& 0x3f).toInt64) + ((((i5.toUInt32 >>> ((5 : Int32) &&& 31).toUInt32).toInt32) &&& (3 : Int32)).toInt64)) - (2 : Int64)))))), .second, .val (.long ((((1 : Int64) <<< (((4 : Int32) * (((i5.toUInt32 >>> ((1 : Int32) &&& 31).toUInt32).toInt32) &&& (15 : Int32))) &&& 0x3f).toInt64) + ((((i5.toUInt32 >>> ((5 : Int32) &&& 31).toUInt32).toInt32) &&& (3 : Int32)).toInt64)) - (2 : Int64))), .second, .unset, .unset, .unset, .unset, .unset, .unset]) rfl ?_
  show Steps p.tables e below (T6.setTop (mkF m 117 #[.val (.long j0), .second, .val (.long j2), .second, .val (.int i4), .val (.int i5), .val (.long j6), .second, .val (.long j8), .second, .val (.long j10), .second, .val (.long j12), .second, .val (.long j14), .second, .val (.long (j12 + (own_lmax (0 : Int64) (own_lmin (j14 - (1 : Int64)) ((((1 : Int64) <<< (((4 : Int32) * (((i5.toUInt32 >>> ((1 : Int32) &&& 31).toUInt32).toInt32) &&& (15 : Int32))) &&& 0x3f).toInt64) + ((((i5.toUInt32 >>> ((5 : Int32) &&& 31).toUInt32).toInt32) &&& (3 : Int32)).toInt64)) - (2 : Int64)))))), .second, .val (.long ((((1 : Int64) <<< (((4 : Int32) * (((i5.toUInt32 >>> ((1 : Int32) &&& 31).toUInt32).toInt32) &&& (15 : Int32))) &&& 0x3f).toInt64) + ((((i5.toUInt32 >>> ((5 : Int32) &&& 31).toUInt32).toInt32) &&& (3 : Int32)).toInt64)) - (2 : Int64))), .second, .unset, .unset, .unset, .unset, .unset, .unset] [])) _
  refine XS.lload X6.here hx rfl (hb hby at_117) rfl ?_
  show Steps p.tables e below (T6.setTop (mkF m 119 #[.val (.long j0), .second, .val (.long j2), .second, .val (.int i4), .val (.int i5), .val (.long j6), .second, .val (.long j8), .second, .val (.long j10), .second, .val (.long j12), .second, .val (.long j14), .second, .val (.long (j12 + (own_lmax (0 : Int64) (own_lmin (j14 - (1 : Int64)) ((((1 : Int64) <<< (((4 : Int32) * (((i5.toUInt32 >>> ((1 : Int32) &&& 31).toUInt32).toInt32) &&& (15 : Int32))) &&& 0x3f).toInt64) + ((((i5.toUInt32 >>> ((5 : Int32) &&& 31).toUInt32).toInt32) &&& (3 : Int32)).toInt64)) - (2 : Int64)))))), .second, .val (.long ((((1 : Int64) <<< (((4 : Int32) * (((i5.toUInt32 >>> ((1 : Int32) &&& 31).toUInt32).toInt32) &&& (15 : Int32))) &&& 0x3f).toInt64) + ((((i5.toUInt32 >>> ((5 : Int32) &&& 31).toUInt32).toInt32) &&& (3 : Int32)).toInt64)) - (2 : Int64))), .second, .unset, .unset, .unset, .unset, .unset, .unset] [(.long (j12 + (own_lmax (0 : Int64) (own_lmin (j14 - (1 : Int64)) ((((1 : Int64) <<< (((4 : Int32) * (((i5.toUInt32 >>> ((1 : Int32) &&& 31).toUInt32).toInt32) &&& (15 : Int32))) &&& 0x3f).toInt64) + ((((i5.toUInt32 >>> ((5 : Int32) &&& 31).toUInt32).toInt32) &&& (3 : Int32)).toInt64)) - (2 : Int64))))))])) _
  refine XS.lload X6.here hx rfl (hb hby at_119) rfl ?_
  show Steps p.tables e below (T6.setTop (mkF m 121 #[.val (.long j0), .second, .val (.long j2), .second, .val (.int i4), .val (.int i5), .val (.long j6), .second, .val (.long j8), .second, .val (.long j10), .second, .val (.long j12), .second, .val (.long j14), .second, .val (.long (j12 + (own_lmax (0 : Int64) (own_lmin (j14 - (1 : Int64)) ((((1 : Int64) <<< (((4 : Int32) * (((i5.toUInt32 >>> ((1 : Int32) &&& 31).toUInt32).toInt32) &&& (15 : Int32))) &&& 0x3f).toInt64) + ((((i5.toUInt32 >>> ((5 : Int32) &&& 31).toUInt32).toInt32) &&& (3 : Int32)).toInt64)) - (2 : Int64)))))), .second, .val (.long ((((1 : Int64) <<< (((4 : Int32) * (((i5.toUInt32 >>> ((1 : Int32) &&& 31).toUInt32).toInt32) &&& (15 : Int32))) &&& 0x3f).toInt64) + ((((i5.toUInt32 >>> ((5 : Int32) &&& 31).toUInt32).toInt32) &&& (3 : Int32)).toInt64)) - (2 : Int64))), .second, .unset, .unset, .unset, .unset, .unset, .unset] [(.long j12), (.long (j12 + (own_lmax (0 : Int64) (own_lmin (j14 - (1 : Int64)) ((((1 : Int64) <<< (((4 : Int32) * (((i5.toUInt32 >>> ((1 : Int32) &&& 31).toUInt32).toInt32) &&& (15 : Int32))) &&& 0x3f).toInt64) + ((((i5.toUInt32 >>> ((5 : Int32) &&& 31).toUInt32).toInt32) &&& (3 : Int32)).toInt64)) - (2 : Int64))))))])) _
  refine XS.lsub X6.here hx rfl (hb hby at_121) rfl ?_
  show Steps p.tables e below (T6.setTop (mkF m 122 #[.val (.long j0), .second, .val (.long j2), .second, .val (.int i4), .val (.int i5), .val (.long j6), .second, .val (.long j8), .second, .val (.long j10), .second, .val (.long j12), .second, .val (.long j14), .second, .val (.long (j12 + (own_lmax (0 : Int64) (own_lmin (j14 - (1 : Int64)) ((((1 : Int64) <<< (((4 : Int32) * (((i5.toUInt32 >>> ((1 : Int32) &&& 31).toUInt32).toInt32) &&& (15 : Int32))) &&& 0x3f).toInt64) + ((((i5.toUInt32 >>> ((5 : Int32) &&& 31).toUInt32).toInt32) &&& (3 : Int32)).toInt64)) - (2 : Int64)))))), .second, .val (.long ((((1 : Int64) <<< (((4 : Int32) * (((i5.toUInt32 >>> ((1 : Int32) &&& 31).toUInt32).toInt32) &&& (15 : Int32))) &&& 0x3f).toInt64) + ((((i5.toUInt32 >>> ((5 : Int32) &&& 31).toUInt32).toInt32) &&& (3 : Int32)).toInt64)) - (2 : Int64))), .second, .unset, .unset, .unset, .unset, .unset, .unset] [(.long ((j12 + (own_lmax (0 : Int64) (own_lmin (j14 - (1 : Int64)) ((((1 : Int64) <<< (((4 : Int32) * (((i5.toUInt32 >>> ((1 : Int32) &&& 31).toUInt32).toInt32) &&& (15 : Int32))) &&& 0x3f).toInt64) + ((((i5.toUInt32 >>> ((5 : Int32) &&& 31).toUInt32).toInt32) &&& (3 : Int32)).toInt64)) - (2 : Int64))))) - j12))])) _
  refine XS.lconst X6.here hx rfl (hb hby at_122) ?_
  show Steps p.tables e below (T6.setTop (mkF m 123 #[.val (.long j0), .second, .val (.long j2), .second, .val (.int i4), .val (.int i5), .val (.long j6), .second, .val (.long j8), .second, .val (.long j10), .second, .val (.long j12), .second, .val (.long j14), .second, .val (.long (j12 + (own_lmax (0 : Int64) (own_lmin (j14 - (1 : Int64)) ((((1 : Int64) <<< (((4 : Int32) * (((i5.toUInt32 >>> ((1 : Int32) &&& 31).toUInt32).toInt32) &&& (15 : Int32))) &&& 0x3f).toInt64) + ((((i5.toUInt32 >>> ((5 : Int32) &&& 31).toUInt32).toInt32) &&& (3 : Int32)).toInt64)) - (2 : Int64)))))), .second, .val (.long ((((1 : Int64) <<< (((4 : Int32) * (((i5.toUInt32 >>> ((1 : Int32) &&& 31).toUInt32).toInt32) &&& (15 : Int32))) &&& 0x3f).toInt64) + ((((i5.toUInt32 >>> ((5 : Int32) &&& 31).toUInt32).toInt32) &&& (3 : Int32)).toInt64)) - (2 : Int64))), .second, .unset, .unset, .unset, .unset, .unset, .unset] [(.long (1 : Int64)), (.long ((j12 + (own_lmax (0 : Int64) (own_lmin (j14 - (1 : Int64)) ((((1 : Int64) <<< (((4 : Int32) * (((i5.toUInt32 >>> ((1 : Int32) &&& 31).toUInt32).toInt32) &&& (15 : Int32))) &&& 0x3f).toInt64) + ((((i5.toUInt32 >>> ((5 : Int32) &&& 31).toUInt32).toInt32) &&& (3 : Int32)).toInt64)) - (2 : Int64))))) - j12))])) _
  refine XS.ladd X6.here hx rfl (hb hby at_123) rfl ?_
  show Steps p.tables e below (T6.setTop (mkF m 124 #[.val (.long j0), .second, .val (.long j2), .second, .val (.int i4), .val (.int i5), .val (.long j6), .second, .val (.long j8), .second, .val (.long j10), .second, .val (.long j12), .second, .val (.long j14), .second, .val (.long (j12 + (own_lmax (0 : Int64) (own_lmin (j14 - (1 : Int64)) ((((1 : Int64) <<< (((4 : Int32) * (((i5.toUInt32 >>> ((1 : Int32) &&& 31).toUInt32).toInt32) &&& (15 : Int32))) &&& 0x3f).toInt64) + ((((i5.toUInt32 >>> ((5 : Int32) &&& 31).toUInt32).toInt32) &&& (3 : Int32)).toInt64)) - (2 : Int64)))))), .second, .val (.long ((((1 : Int64) <<< (((4 : Int32) * (((i5.toUInt32 >>> ((1 : Int32) &&& 31).toUInt32).toInt32) &&& (15 : Int32))) &&& 0x3f).toInt64) + ((((i5.toUInt32 >>> ((5 : Int32) &&& 31).toUInt32).toInt32) &&& (3 : Int32)).toInt64)) - (2 : Int64))), .second, .unset, .unset, .unset, .unset, .unset, .unset] [(.long (((j12 + (own_lmax (0 : Int64) (own_lmin (j14 - (1 : Int64)) ((((1 : Int64) <<< (((4 : Int32) * (((i5.toUInt32 >>> ((1 : Int32) &&& 31).toUInt32).toInt32) &&& (15 : Int32))) &&& 0x3f).toInt64) + ((((i5.toUInt32 >>> ((5 : Int32) &&& 31).toUInt32).toInt32) &&& (3 : Int32)).toInt64)) - (2 : Int64))))) - j12) + (1 : Int64)))])) _
  refine XS.lstore X6.here hx rfl (hb hby at_124) rfl (l' := #[.val (.long j0), .second, .val (.long j2), .second, .val (.int i4), .val (.int i5), .val (.long j6), .second, .val (.long j8), .second, .val (.long j10), .second, .val (.long j12), .second, .val (.long j14), .second, .val (.long (j12 + (own_lmax (0 : Int64) (own_lmin (j14 - (1 : Int64)) ((((1 : Int64) <<< (((4 : Int32) * (((i5.toUInt32 >>> ((1 : Int32) &&& 31).toUInt32).toInt32) &&& (15 : Int32))) &&& 0x3f).toInt64) + ((((i5.toUInt32 >>> ((5 : Int32) &&& 31).toUInt32).toInt32) &&& (3 : Int32)).toInt64)) - (2 : Int64)))))), .second, .val (.long (((j12 + (own_lmax (0 : Int64) (own_lmin (j14 - (1 : Int64)) ((((1 : Int64) <<< (((4 : Int32) * (((i5.toUInt32 >>> ((1 : Int32) &&& 31).toUInt32).toInt32) &&& (15 : Int32))) &&& 0x3f).toInt64) + ((((i5.toUInt32 >>> ((5 : Int32) &&& 31).toUInt32).toInt32) &&& (3 : Int32)).toInt64)) - (2 : Int64))))) - j12) + (1 : Int64))), .second, .unset, .unset, .unset, .unset, .unset, .unset]) rfl ?_
  exact kt
set_option maxRecDepth 65536 in
set_option maxHeartbeats 40000000 in
theorem sgC1 {p : Program} {l : Launch} {e : Env} {s : State} {m : MethodId} {args : Array Value} {below : List Frame} {meth : Method} {c : Code} {T0 : State} {locs : List Loc} {Z : State} {a0 : Array Value} {h0 : Heap} {n0 : Nat} (j0 : Int64) (j2 : Int64) (i4 : Int32) (i5 : Int32) (j6 : Int64) (j8 : Int64) (j10 : Int64) (j12 : Int64) (j14 : Int64) (j16 : Int64) (j18 : Int64)
    (X0 : Stand p l e room_1 s m args below meth c T0 locs 0 0) (hx : p.tables.exec = Jvm.exec) (hZ : Z.Warmed39 s.vm) (hw : ∀ d ∈ tables_1, d.before a0 Z = true) (hby : c.code = code) (hml : c.maxLocals = 26) (hown : s.vm.findClass "com/example/tab30/tab30/book/SegmentLargestBlockPinLaw" = some m.cls) (e0 : T0.heap = h0) (Z0 : n0 ≤ h0.size) (N0 : Fr n0 locs) (hq2 : 1 ≤ ((j16 - j12) + (1 : Int64)).toInt) (hq3 : ((j16 - j12) + (1 : Int64)).toInt < 1000000000000000000) :
    ∃ (T' : State) (h' : Heap) (locs' : List Loc), Stand p l e room_1 s m args below meth c T' locs' 0 0 ∧ T'.heap = h' ∧ Fr n0 locs' ∧ Keep h0 h' [] ∧
      ∀ target, Steps p.tables e below (T'.setTop (mkF m 135 #[.val (.long j0), .second, .val (.long j2), .second, .val (.int i4), .val (.int i5), .val (.long j6), .second, .val (.long j8), .second, .val (.long j10), .second, .val (.long j12), .second, .val (.long j14), .second, .val (.long j16), .second, .val (.long j18), .second, .val (.long (own_lb 15 j12 ((j16 - j12) + (1 : Int64)) (1 : Int64))), .second, .unset, .unset, .unset, .unset] [])) target → Steps p.tables e below (T0.setTop (mkF m 126 #[.val (.long j0), .second, .val (.long j2), .second, .val (.int i4), .val (.int i5), .val (.long j6), .second, .val (.long j8), .second, .val (.long j10), .second, .val (.long j12), .second, .val (.long j14), .second, .val (.long j16), .second, .val (.long j18), .second, .unset, .unset, .unset, .unset, .unset, .unset] [])) target := by
  obtain ⟨_, _, ⟨T5, L5, k5, n5⟩, -, X5, ⟨Lc5, hQ5, l5, y5, z5⟩, st5⟩ := Jvm.LawKit.callS X0 hx (y := (⟨"com/example/tab30/tab30/book/Segment", "largestBlock", "(JJ)J"⟩ : MethodName)) hown (mvT hZ (hw _ (List.mem_of_getElem? (i := 10) rfl))) (mvT hZ (hw _ (List.mem_of_getElem? (i := 11) rfl))) (mvT hZ (hw _ (List.mem_of_getElem? (i := 12) rfl))) (mvT hZ (hw _ (List.mem_of_getElem? (i := 13) rfl))) (by decide) (backOf (W := 0) (rm3 l Z a0 hw [] j12 j16 h0 n0 Z0 hq2 hq3) hZ (hw _ (List.mem_of_getElem? (i := 13) rfl)) (hw _ (List.mem_of_getElem? (i := 12) rfl)) (by decide) (by decide)) (g := (mkF m 130 #[.val (.long j0), .second, .val (.long j2), .second, .val (.int i4), .val (.int i5), .val (.long j6), .second, .val (.long j8), .second, .val (.long j10), .second, .val (.long j12), .second, .val (.long j14), .second, .val (.long j16), .second, .val (.long j18), .second, .unset, .unset, .unset, .unset, .unset, .unset] [(.long j16), (.long j12)])) rfl (by rw [hml]; rfl) (argsL := [(.long j12), (.long j16)]) (rest := []) (lenOf pd_0_0 rfl) rfl (by show 2 * 0 + _ ≤ _; exact Nat.le_of_eq rfl) (hb hby at_130) (fun _ _ => ⟨rfl, e0, (Nat.le_of_ble_eq_true rfl), (Nat.le_of_ble_eq_true rfl)⟩)
  dsimp only [Pt.U, Pt.locs, Pt.cells, Pt.slots] at X5 l5 y5 z5 st5 hQ5
  subst l5 y5 z5
  obtain ⟨rfl, N5q, h5q⟩ := hQ5
  have Kq5 : Keep h0 T5.heap [] := by rw [h5q]; exact Keep.refl _ _
  have K5 : Keep h0 T5.heap [] := (Keep.refl h0 []).trans Kq5 (fun _ q => nomatch q)
  have N5 := Fr.app N0 N5q
  refine ⟨T5, _, _, X5, rfl, N5, K5, fun target kt => ?_⟩
  show Steps p.tables e below (T0.setTop (mkF m 126 #[.val (.long j0), .second, .val (.long j2), .second, .val (.int i4), .val (.int i5), .val (.long j6), .second, .val (.long j8), .second, .val (.long j10), .second, .val (.long j12), .second, .val (.long j14), .second, .val (.long j16), .second, .val (.long j18), .second, .unset, .unset, .unset, .unset, .unset, .unset] [])) _
  refine XS.lload X0.here hx rfl (hb hby at_126) rfl ?_
  show Steps p.tables e below (T0.setTop (mkF m 128 #[.val (.long j0), .second, .val (.long j2), .second, .val (.int i4), .val (.int i5), .val (.long j6), .second, .val (.long j8), .second, .val (.long j10), .second, .val (.long j12), .second, .val (.long j14), .second, .val (.long j16), .second, .val (.long j18), .second, .unset, .unset, .unset, .unset, .unset, .unset] [(.long j12)])) _
  refine XS.lload X0.here hx rfl (hb hby at_128) rfl ?_
  show Steps p.tables e below (T0.setTop (mkF m 130 #[.val (.long j0), .second, .val (.long j2), .second, .val (.int i4), .val (.int i5), .val (.long j6), .second, .val (.long j8), .second, .val (.long j10), .second, .val (.long j12), .second, .val (.long j14), .second, .val (.long j16), .second, .val (.long j18), .second, .unset, .unset, .unset, .unset, .unset, .unset] [(.long j16), (.long j12)])) _
  refine st5 _ ?_
  show Steps p.tables e below (T5.setTop (mkF m 133 #[.val (.long j0), .second, .val (.long j2), .second, .val (.int i4), .val (.int i5), .val (.long j6), .second, .val (.long j8), .second, .val (.long j10), .second, .val (.long j12), .second, .val (.long j14), .second, .val (.long j16), .second, .val (.long j18), .second, .unset, .unset, .unset, .unset, .unset, .unset] [(.long (own_lb 15 j12 ((j16 - j12) + (1 : Int64)) (1 : Int64)))])) _
  refine XS.lstore X5.here hx rfl (hb hby at_133) rfl (l' := #[.val (.long j0), .second, .val (.long j2), .second, .val (.int i4), .val (.int i5), .val (.long j6), .second, .val (.long j8), .second, .val (.long j10), .second, .val (.long j12), .second, .val (.long j14), .second, .val (.long j16), .second, .val (.long j18), .second, .val (.long (own_lb 15 j12 ((j16 - j12) + (1 : Int64)) (1 : Int64))), .second, .unset, .unset, .unset, .unset]) rfl ?_
  exact kt
set_option maxRecDepth 65536 in
set_option maxHeartbeats 40000000 in
theorem sgD_tf {p : Program} {l : Launch} {e : Env} {s : State} {m : MethodId} {args : Array Value} {below : List Frame} {meth : Method} {c : Code} {T0 : State} {locs : List Loc} {Z : State} {a0 : Array Value} {h0 : Heap} {n0 : Nat} (j0 : Int64) (j2 : Int64) (i4 : Int32) (i5 : Int32) (j6 : Int64) (j8 : Int64) (j10 : Int64) (j12 : Int64) (j14 : Int64) (j16 : Int64) (j18 : Int64) (j20 : Int64)
    (X0 : Stand p l e room_1 s m args below meth c T0 locs 0 0) (hx : p.tables.exec = Jvm.exec) (hZ : Z.Warmed39 s.vm) (hw : ∀ d ∈ tables_1, d.before a0 Z = true) (hby : c.code = code) (hml : c.maxLocals = 26) (hown : s.vm.findClass "com/example/tab30/tab30/book/SegmentLargestBlockPinLaw" = some m.cls) (e0 : T0.heap = h0) (Z0 : n0 ≤ h0.size) (N0 : Fr n0 locs) (hc139 : (0 : Int32) < (lcmpW j20 (0 : Int64))) (hc151 : (lcmpW (j20 &&& (j20 - (1 : Int64))) (0 : Int64)) = (0 : Int32)) (hc162 : ¬ ((lcmpW (j20 &&& (1229782938247303441 : Int64)) (0 : Int64)) = (0 : Int32))) (hc174 : ¬ ((1 : Int32) = (0 : Int32))) (hc184 : ¬ ((0 : Int32) < (lcmpW j20 j18))) (hnz195 : ¬ (j20 = (0 : Int64))) (hc198 : (lcmpW ((j12 - (1 : Int64)) % j20) (0 : Int64)) = (0 : Int32)) (hc216 : (0 : Int32) < (lcmpW (j20 * (16 : Int64)) j18)) :
    ∃ (T' : State) (h' : Heap) (locs' : List Loc) (Ls : Array Slot), Stand p l e room_1 s m args below meth c T' locs' 0 0 ∧ T'.heap = h' ∧ Fr n0 locs' ∧ Keep h0 h' [] ∧
      ∀ target, Steps p.tables e below (T'.setTop (mkF m 248 Ls [(.int (1 : Int32))])) target → Steps p.tables e below (T0.setTop (mkF m 135 #[.val (.long j0), .second, .val (.long j2), .second, .val (.int i4), .val (.int i5), .val (.long j6), .second, .val (.long j8), .second, .val (.long j10), .second, .val (.long j12), .second, .val (.long j14), .second, .val (.long j16), .second, .val (.long j18), .second, .val (.long j20), .second, .unset, .unset, .unset, .unset] [])) target := by

  refine ⟨T0, _, _, #[.val (.long j0), .second, .val (.long j2), .second, .val (.int i4), .val (.int i5), .val (.long j6), .second, .val (.long j8), .second, .val (.long j10), .second, .val (.long j12), .second, .val (.long j14), .second, .val (.long j16), .second, .val (.long j18), .second, .val (.long j20), .second, .val (.int (1 : Int32)), .val (.long (j20 * (16 : Int64))), .second, .val (.int (0 : Int32))], X0, e0, N0, (Keep.refl h0 []), fun target kt => ?_⟩
  show Steps p.tables e below (T0.setTop (mkF m 135 #[.val (.long j0), .second, .val (.long j2), .second, .val (.int i4), .val (.int i5), .val (.long j6), .second, .val (.long j8), .second, .val (.long j10), .second, .val (.long j12), .second, .val (.long j14), .second, .val (.long j16), .second, .val (.long j18), .second, .val (.long j20), .second, .unset, .unset, .unset, .unset] [])) _
  refine XS.lload X0.here hx rfl (hb hby at_135) rfl ?_
  show Steps p.tables e below (T0.setTop (mkF m 137 #[.val (.long j0), .second, .val (.long j2), .second, .val (.int i4), .val (.int i5), .val (.long j6), .second, .val (.long j8), .second, .val (.long j10), .second, .val (.long j12), .second, .val (.long j14), .second, .val (.long j16), .second, .val (.long j18), .second, .val (.long j20), .second, .unset, .unset, .unset, .unset] [(.long j20)])) _
  refine XS.lconst X0.here hx rfl (hb hby at_137) ?_
  show Steps p.tables e below (T0.setTop (mkF m 138 #[.val (.long j0), .second, .val (.long j2), .second, .val (.int i4), .val (.int i5), .val (.long j6), .second, .val (.long j8), .second, .val (.long j10), .second, .val (.long j12), .second, .val (.long j14), .second, .val (.long j16), .second, .val (.long j18), .second, .val (.long j20), .second, .unset, .unset, .unset, .unset] [(.long (0 : Int64)), (.long j20)])) _
  refine XS.lcmp X0.here hx rfl (hb hby at_138) rfl ?_
  show Steps p.tables e below (T0.setTop (mkF m 139 #[.val (.long j0), .second, .val (.long j2), .second, .val (.int i4), .val (.int i5), .val (.long j6), .second, .val (.long j8), .second, .val (.long j10), .second, .val (.long j12), .second, .val (.long j14), .second, .val (.long j16), .second, .val (.long j18), .second, .val (.long j20), .second, .unset, .unset, .unset, .unset] [(.int (lcmpW j20 (0 : Int64)))])) _
  refine XS.ifNo X0.here hx rfl (hb hby at_139) rfl ((if0 _ _).trans (tlt hc139).2.2.2) ?_
  show Steps p.tables e below (T0.setTop (mkF m 142 #[.val (.long j0), .second, .val (.long j2), .second, .val (.int i4), .val (.int i5), .val (.long j6), .second, .val (.long j8), .second, .val (.long j10), .second, .val (.long j12), .second, .val (.long j14), .second, .val (.long j16), .second, .val (.long j18), .second, .val (.long j20), .second, .unset, .unset, .unset, .unset] [])) _
  refine XS.lload X0.here hx rfl (hb hby at_142) rfl ?_
  show Steps p.tables e below (T0.setTop (mkF m 144 #[.val (.long j0), .second, .val (.long j2), .second, .val (.int i4), .val (.int i5), .val (.long j6), .second, .val (.long j8), .second, .val (.long j10), .second, .val (.long j12), .second, .val (.long j14), .second, .val (.long j16), .second, .val (.long j18), .second, .val (.long j20), .second, .unset, .unset, .unset, .unset] [(.long j20)])) _
  refine XS.lload X0.here hx rfl (hb hby at_144) rfl ?_
  show Steps p.tables e below (T0.setTop (mkF m 146 #[.val (.long j0), .second, .val (.long j2), .second, .val (.int i4), .val (.int i5), .val (.long j6), .second, .val (.long j8), .second, .val (.long j10), .second, .val (.long j12), .second, .val (.long j14), .second, .val (.long j16), .second, .val (.long j18), .second, .val (.long j20), .second, .unset, .unset, .unset, .unset] [(.long j20), (.long j20)])) _
  refine XS.lconst X0.here hx rfl (hb hby at_146) ?_
  show Steps p.tables e below (T0.setTop (mkF m 147 #[.val (.long j0), .second, .val (.long j2), .second, .val (.int i4), .val (.int i5), .val (.long j6), .second, .val (.long j8), .second, .val (.long j10), .second, .val (.long j12), .second, .val (.long j14), .second, .val (.long j16), .second, .val (.long j18), .second, .val (.long j20), .second, .unset, .unset, .unset, .unset] [(.long (1 : Int64)), (.long j20), (.long j20)])) _
  refine XS.lsub X0.here hx rfl (hb hby at_147) rfl ?_
  show Steps p.tables e below (T0.setTop (mkF m 148 #[.val (.long j0), .second, .val (.long j2), .second, .val (.int i4), .val (.int i5), .val (.long j6), .second, .val (.long j8), .second, .val (.long j10), .second, .val (.long j12), .second, .val (.long j14), .second, .val (.long j16), .second, .val (.long j18), .second, .val (.long j20), .second, .unset, .unset, .unset, .unset] [(.long (j20 - (1 : Int64))), (.long j20)])) _
  refine XS.land X0.here hx rfl (hb hby at_148) rfl ?_
  show Steps p.tables e below (T0.setTop (mkF m 149 #[.val (.long j0), .second, .val (.long j2), .second, .val (.int i4), .val (.int i5), .val (.long j6), .second, .val (.long j8), .second, .val (.long j10), .second, .val (.long j12), .second, .val (.long j14), .second, .val (.long j16), .second, .val (.long j18), .second, .val (.long j20), .second, .unset, .unset, .unset, .unset] [(.long (j20 &&& (j20 - (1 : Int64))))])) _
  refine XS.lconst X0.here hx rfl (hb hby at_149) ?_
  show Steps p.tables e below (T0.setTop (mkF m 150 #[.val (.long j0), .second, .val (.long j2), .second, .val (.int i4), .val (.int i5), .val (.long j6), .second, .val (.long j8), .second, .val (.long j10), .second, .val (.long j12), .second, .val (.long j14), .second, .val (.long j16), .second, .val (.long j18), .second, .val (.long j20), .second, .unset, .unset, .unset, .unset] [(.long (0 : Int64)), (.long (j20 &&& (j20 - (1 : Int64))))])) _
  refine XS.lcmp X0.here hx rfl (hb hby at_150) rfl ?_
  show Steps p.tables e below (T0.setTop (mkF m 151 #[.val (.long j0), .second, .val (.long j2), .second, .val (.int i4), .val (.int i5), .val (.long j6), .second, .val (.long j8), .second, .val (.long j10), .second, .val (.long j12), .second, .val (.long j14), .second, .val (.long j16), .second, .val (.long j18), .second, .val (.long j20), .second, .unset, .unset, .unset, .unset] [(.int (lcmpW (j20 &&& (j20 - (1 : Int64))) (0 : Int64)))])) _
  refine XS.ifNo X0.here hx rfl (hb hby at_151) rfl ((if0 _ _).trans (teq hc151).2) ?_
  show Steps p.tables e below (T0.setTop (mkF m 154 #[.val (.long j0), .second, .val (.long j2), .second, .val (.int i4), .val (.int i5), .val (.long j6), .second, .val (.long j8), .second, .val (.long j10), .second, .val (.long j12), .second, .val (.long j14), .second, .val (.long j16), .second, .val (.long j18), .second, .val (.long j20), .second, .unset, .unset, .unset, .unset] [])) _
  refine XS.lload X0.here hx rfl (hb hby at_154) rfl ?_
  show Steps p.tables e below (T0.setTop (mkF m 156 #[.val (.long j0), .second, .val (.long j2), .second, .val (.int i4), .val (.int i5), .val (.long j6), .second, .val (.long j8), .second, .val (.long j10), .second, .val (.long j12), .second, .val (.long j14), .second, .val (.long j16), .second, .val (.long j18), .second, .val (.long j20), .second, .unset, .unset, .unset, .unset] [(.long j20)])) _
  refine X0.ldc2Long hx hown (mvT hZ (hw _ (List.mem_of_getElem? (i := 15) rfl))) (g := (mkF m 156 #[.val (.long j0), .second, .val (.long j2), .second, .val (.int i4), .val (.int i5), .val (.long j6), .second, .val (.long j8), .second, .val (.long j10), .second, .val (.long j12), .second, .val (.long j14), .second, .val (.long j16), .second, .val (.long j18), .second, .val (.long j20), .second, .unset, .unset, .unset, .unset] [(.long j20)])) rfl (hb hby at_156) _ ?_
  show Steps p.tables e below (T0.setTop (mkF m 159 #[.val (.long j0), .second, .val (.long j2), .second, .val (.int i4), .val (.int i5), .val (.long j6), .second, .val (.long j8), .second, .val (.long j10), .second, .val (.long j12), .second, .val (.long j14), .second, .val (.long j16), .second, .val (.long j18), .second, .val (.long j20), .second, .unset, .unset, .unset, .unset] [(.long (1229782938247303441 : Int64)), (.long j20)])) _
  refine XS.land X0.here hx rfl (hb hby at_159) rfl ?_
  show Steps p.tables e below (T0.setTop (mkF m 160 #[.val (.long j0), .second, .val (.long j2), .second, .val (.int i4), .val (.int i5), .val (.long j6), .second, .val (.long j8), .second, .val (.long j10), .second, .val (.long j12), .second, .val (.long j14), .second, .val (.long j16), .second, .val (.long j18), .second, .val (.long j20), .second, .unset, .unset, .unset, .unset] [(.long (j20 &&& (1229782938247303441 : Int64)))])) _
  refine XS.lconst X0.here hx rfl (hb hby at_160) ?_
  show Steps p.tables e below (T0.setTop (mkF m 161 #[.val (.long j0), .second, .val (.long j2), .second, .val (.int i4), .val (.int i5), .val (.long j6), .second, .val (.long j8), .second, .val (.long j10), .second, .val (.long j12), .second, .val (.long j14), .second, .val (.long j16), .second, .val (.long j18), .second, .val (.long j20), .second, .unset, .unset, .unset, .unset] [(.long (0 : Int64)), (.long (j20 &&& (1229782938247303441 : Int64)))])) _
  refine XS.lcmp X0.here hx rfl (hb hby at_161) rfl ?_
  show Steps p.tables e below (T0.setTop (mkF m 162 #[.val (.long j0), .second, .val (.long j2), .second, .val (.int i4), .val (.int i5), .val (.long j6), .second, .val (.long j8), .second, .val (.long j10), .second, .val (.long j12), .second, .val (.long j14), .second, .val (.long j16), .second, .val (.long j18), .second, .val (.long j20), .second, .unset, .unset, .unset, .unset] [(.int (lcmpW (j20 &&& (1229782938247303441 : Int64)) (0 : Int64)))])) _
  refine XS.ifNo X0.here hx rfl (hb hby at_162) rfl ((if0 _ _).trans (feq hc162).1) ?_
  show Steps p.tables e below (T0.setTop (mkF m 165 #[.val (.long j0), .second, .val (.long j2), .second, .val (.int i4), .val (.int i5), .val (.long j6), .second, .val (.long j8), .second, .val (.long j10), .second, .val (.long j12), .second, .val (.long j14), .second, .val (.long j16), .second, .val (.long j18), .second, .val (.long j20), .second, .unset, .unset, .unset, .unset] [])) _
  refine XS.iconst X0.here hx rfl (hb hby at_165) ?_
  show Steps p.tables e below (T0.setTop (mkF m 166 #[.val (.long j0), .second, .val (.long j2), .second, .val (.int i4), .val (.int i5), .val (.long j6), .second, .val (.long j8), .second, .val (.long j10), .second, .val (.long j12), .second, .val (.long j14), .second, .val (.long j16), .second, .val (.long j18), .second, .val (.long j20), .second, .unset, .unset, .unset, .unset] [(.int (1 : Int32))])) _
  refine XS.goto X0.here hx rfl (pc0 := 166) (pc' := 170) rfl (hb hby at_166) (by decide) (by decide) ?_
  show Steps p.tables e below (T0.setTop (mkF m 170 #[.val (.long j0), .second, .val (.long j2), .second, .val (.int i4), .val (.int i5), .val (.long j6), .second, .val (.long j8), .second, .val (.long j10), .second, .val (.long j12), .second, .val (.long j14), .second, .val (.long j16), .second, .val (.long j18), .second, .val (.long j20), .second, .unset, .unset, .unset, .unset] [(.int (1 : Int32))])) _
  refine XS.istore X0.here hx rfl (hb hby at_170) rfl (l' := #[.val (.long j0), .second, .val (.long j2), .second, .val (.int i4), .val (.int i5), .val (.long j6), .second, .val (.long j8), .second, .val (.long j10), .second, .val (.long j12), .second, .val (.long j14), .second, .val (.long j16), .second, .val (.long j18), .second, .val (.long j20), .second, .val (.int (1 : Int32)), .unset, .unset, .unset]) rfl ?_
  show Steps p.tables e below (T0.setTop (mkF m 172 #[.val (.long j0), .second, .val (.long j2), .second, .val (.int i4), .val (.int i5), .val (.long j6), .second, .val (.long j8), .second, .val (.long j10), .second, .val (.long j12), .second, .val (.long j14), .second, .val (.long j16), .second, .val (.long j18), .second, .val (.long j20), .second, .val (.int (1 : Int32)), .unset, .unset, .unset] [])) _
  refine XS.iload X0.here hx rfl (hb hby at_172) rfl ?_
  show Steps p.tables e below (T0.setTop (mkF m 174 #[.val (.long j0), .second, .val (.long j2), .second, .val (.int i4), .val (.int i5), .val (.long j6), .second, .val (.long j8), .second, .val (.long j10), .second, .val (.long j12), .second, .val (.long j14), .second, .val (.long j16), .second, .val (.long j18), .second, .val (.long j20), .second, .val (.int (1 : Int32)), .unset, .unset, .unset] [(.int (1 : Int32))])) _
  refine XS.ifYes X0.here hx rfl (pc0 := 174) (pc' := 179) rfl (hb hby at_174) rfl ((if0 _ _).trans (feq hc174).2) (by decide) (by decide) ?_
  show Steps p.tables e below (T0.setTop (mkF m 179 #[.val (.long j0), .second, .val (.long j2), .second, .val (.int i4), .val (.int i5), .val (.long j6), .second, .val (.long j8), .second, .val (.long j10), .second, .val (.long j12), .second, .val (.long j14), .second, .val (.long j16), .second, .val (.long j18), .second, .val (.long j20), .second, .val (.int (1 : Int32)), .unset, .unset, .unset] [])) _
  refine XS.lload X0.here hx rfl (hb hby at_179) rfl ?_
  show Steps p.tables e below (T0.setTop (mkF m 181 #[.val (.long j0), .second, .val (.long j2), .second, .val (.int i4), .val (.int i5), .val (.long j6), .second, .val (.long j8), .second, .val (.long j10), .second, .val (.long j12), .second, .val (.long j14), .second, .val (.long j16), .second, .val (.long j18), .second, .val (.long j20), .second, .val (.int (1 : Int32)), .unset, .unset, .unset] [(.long j20)])) _
  refine XS.lload X0.here hx rfl (hb hby at_181) rfl ?_
  show Steps p.tables e below (T0.setTop (mkF m 183 #[.val (.long j0), .second, .val (.long j2), .second, .val (.int i4), .val (.int i5), .val (.long j6), .second, .val (.long j8), .second, .val (.long j10), .second, .val (.long j12), .second, .val (.long j14), .second, .val (.long j16), .second, .val (.long j18), .second, .val (.long j20), .second, .val (.int (1 : Int32)), .unset, .unset, .unset] [(.long j18), (.long j20)])) _
  refine XS.lcmp X0.here hx rfl (hb hby at_183) rfl ?_
  show Steps p.tables e below (T0.setTop (mkF m 184 #[.val (.long j0), .second, .val (.long j2), .second, .val (.int i4), .val (.int i5), .val (.long j6), .second, .val (.long j8), .second, .val (.long j10), .second, .val (.long j12), .second, .val (.long j14), .second, .val (.long j16), .second, .val (.long j18), .second, .val (.long j20), .second, .val (.int (1 : Int32)), .unset, .unset, .unset] [(.int (lcmpW j20 j18))])) _
  refine XS.ifYes X0.here hx rfl (pc0 := 184) (pc' := 189) rfl (hb hby at_184) rfl ((if0 _ _).trans (flt hc184).2.2.2) (by decide) (by decide) ?_
  show Steps p.tables e below (T0.setTop (mkF m 189 #[.val (.long j0), .second, .val (.long j2), .second, .val (.int i4), .val (.int i5), .val (.long j6), .second, .val (.long j8), .second, .val (.long j10), .second, .val (.long j12), .second, .val (.long j14), .second, .val (.long j16), .second, .val (.long j18), .second, .val (.long j20), .second, .val (.int (1 : Int32)), .unset, .unset, .unset] [])) _
  refine XS.lload X0.here hx rfl (hb hby at_189) rfl ?_
  show Steps p.tables e below (T0.setTop (mkF m 191 #[.val (.long j0), .second, .val (.long j2), .second, .val (.int i4), .val (.int i5), .val (.long j6), .second, .val (.long j8), .second, .val (.long j10), .second, .val (.long j12), .second, .val (.long j14), .second, .val (.long j16), .second, .val (.long j18), .second, .val (.long j20), .second, .val (.int (1 : Int32)), .unset, .unset, .unset] [(.long j12)])) _
  refine XS.lconst X0.here hx rfl (hb hby at_191) ?_
  show Steps p.tables e below (T0.setTop (mkF m 192 #[.val (.long j0), .second, .val (.long j2), .second, .val (.int i4), .val (.int i5), .val (.long j6), .second, .val (.long j8), .second, .val (.long j10), .second, .val (.long j12), .second, .val (.long j14), .second, .val (.long j16), .second, .val (.long j18), .second, .val (.long j20), .second, .val (.int (1 : Int32)), .unset, .unset, .unset] [(.long (1 : Int64)), (.long j12)])) _
  refine XS.lsub X0.here hx rfl (hb hby at_192) rfl ?_
  show Steps p.tables e below (T0.setTop (mkF m 193 #[.val (.long j0), .second, .val (.long j2), .second, .val (.int i4), .val (.int i5), .val (.long j6), .second, .val (.long j8), .second, .val (.long j10), .second, .val (.long j12), .second, .val (.long j14), .second, .val (.long j16), .second, .val (.long j18), .second, .val (.long j20), .second, .val (.int (1 : Int32)), .unset, .unset, .unset] [(.long (j12 - (1 : Int64)))])) _
  refine XS.lload X0.here hx rfl (hb hby at_193) rfl ?_
  show Steps p.tables e below (T0.setTop (mkF m 195 #[.val (.long j0), .second, .val (.long j2), .second, .val (.int i4), .val (.int i5), .val (.long j6), .second, .val (.long j8), .second, .val (.long j10), .second, .val (.long j12), .second, .val (.long j14), .second, .val (.long j16), .second, .val (.long j18), .second, .val (.long j20), .second, .val (.int (1 : Int32)), .unset, .unset, .unset] [(.long j20), (.long (j12 - (1 : Int64)))])) _
  refine XS.lrem X0.here hx rfl (hb hby at_195) rfl hnz195 ?_
  rw [lrem_mod]
  show Steps p.tables e below (T0.setTop (mkF m 196 #[.val (.long j0), .second, .val (.long j2), .second, .val (.int i4), .val (.int i5), .val (.long j6), .second, .val (.long j8), .second, .val (.long j10), .second, .val (.long j12), .second, .val (.long j14), .second, .val (.long j16), .second, .val (.long j18), .second, .val (.long j20), .second, .val (.int (1 : Int32)), .unset, .unset, .unset] [(.long ((j12 - (1 : Int64)) % j20))])) _
  refine XS.lconst X0.here hx rfl (hb hby at_196) ?_
  show Steps p.tables e below (T0.setTop (mkF m 197 #[.val (.long j0), .second, .val (.long j2), .second, .val (.int i4), .val (.int i5), .val (.long j6), .second, .val (.long j8), .second, .val (.long j10), .second, .val (.long j12), .second, .val (.long j14), .second, .val (.long j16), .second, .val (.long j18), .second, .val (.long j20), .second, .val (.int (1 : Int32)), .unset, .unset, .unset] [(.long (0 : Int64)), (.long ((j12 - (1 : Int64)) % j20))])) _
  refine XS.lcmp X0.here hx rfl (hb hby at_197) rfl ?_
  show Steps p.tables e below (T0.setTop (mkF m 198 #[.val (.long j0), .second, .val (.long j2), .second, .val (.int i4), .val (.int i5), .val (.long j6), .second, .val (.long j8), .second, .val (.long j10), .second, .val (.long j12), .second, .val (.long j14), .second, .val (.long j16), .second, .val (.long j18), .second, .val (.long j20), .second, .val (.int (1 : Int32)), .unset, .unset, .unset] [(.int (lcmpW ((j12 - (1 : Int64)) % j20) (0 : Int64)))])) _
  refine XS.ifYes X0.here hx rfl (pc0 := 198) (pc' := 203) rfl (hb hby at_198) rfl ((if0 _ _).trans (teq hc198).1) (by decide) (by decide) ?_
  show Steps p.tables e below (T0.setTop (mkF m 203 #[.val (.long j0), .second, .val (.long j2), .second, .val (.int i4), .val (.int i5), .val (.long j6), .second, .val (.long j8), .second, .val (.long j10), .second, .val (.long j12), .second, .val (.long j14), .second, .val (.long j16), .second, .val (.long j18), .second, .val (.long j20), .second, .val (.int (1 : Int32)), .unset, .unset, .unset] [])) _
  refine XS.lload X0.here hx rfl (hb hby at_203) rfl ?_
  show Steps p.tables e below (T0.setTop (mkF m 205 #[.val (.long j0), .second, .val (.long j2), .second, .val (.int i4), .val (.int i5), .val (.long j6), .second, .val (.long j8), .second, .val (.long j10), .second, .val (.long j12), .second, .val (.long j14), .second, .val (.long j16), .second, .val (.long j18), .second, .val (.long j20), .second, .val (.int (1 : Int32)), .unset, .unset, .unset] [(.long j20)])) _
  refine X0.ldc2Long hx hown (mvT hZ (hw _ (List.mem_of_getElem? (i := 16) rfl))) (g := (mkF m 205 #[.val (.long j0), .second, .val (.long j2), .second, .val (.int i4), .val (.int i5), .val (.long j6), .second, .val (.long j8), .second, .val (.long j10), .second, .val (.long j12), .second, .val (.long j14), .second, .val (.long j16), .second, .val (.long j18), .second, .val (.long j20), .second, .val (.int (1 : Int32)), .unset, .unset, .unset] [(.long j20)])) rfl (hb hby at_205) _ ?_
  show Steps p.tables e below (T0.setTop (mkF m 208 #[.val (.long j0), .second, .val (.long j2), .second, .val (.int i4), .val (.int i5), .val (.long j6), .second, .val (.long j8), .second, .val (.long j10), .second, .val (.long j12), .second, .val (.long j14), .second, .val (.long j16), .second, .val (.long j18), .second, .val (.long j20), .second, .val (.int (1 : Int32)), .unset, .unset, .unset] [(.long (16 : Int64)), (.long j20)])) _
  refine XS.lmul X0.here hx rfl (hb hby at_208) rfl ?_
  show Steps p.tables e below (T0.setTop (mkF m 209 #[.val (.long j0), .second, .val (.long j2), .second, .val (.int i4), .val (.int i5), .val (.long j6), .second, .val (.long j8), .second, .val (.long j10), .second, .val (.long j12), .second, .val (.long j14), .second, .val (.long j16), .second, .val (.long j18), .second, .val (.long j20), .second, .val (.int (1 : Int32)), .unset, .unset, .unset] [(.long (j20 * (16 : Int64)))])) _
  refine XS.lstore X0.here hx rfl (hb hby at_209) rfl (l' := #[.val (.long j0), .second, .val (.long j2), .second, .val (.int i4), .val (.int i5), .val (.long j6), .second, .val (.long j8), .second, .val (.long j10), .second, .val (.long j12), .second, .val (.long j14), .second, .val (.long j16), .second, .val (.long j18), .second, .val (.long j20), .second, .val (.int (1 : Int32)), .val (.long (j20 * (16 : Int64))), .second, .unset]) rfl ?_
  show Steps p.tables e below (T0.setTop (mkF m 211 #[.val (.long j0), .second, .val (.long j2), .second, .val (.int i4), .val (.int i5), .val (.long j6), .second, .val (.long j8), .second, .val (.long j10), .second, .val (.long j12), .second, .val (.long j14), .second, .val (.long j16), .second, .val (.long j18), .second, .val (.long j20), .second, .val (.int (1 : Int32)), .val (.long (j20 * (16 : Int64))), .second, .unset] [])) _
  refine XS.lload X0.here hx rfl (hb hby at_211) rfl ?_
  show Steps p.tables e below (T0.setTop (mkF m 213 #[.val (.long j0), .second, .val (.long j2), .second, .val (.int i4), .val (.int i5), .val (.long j6), .second, .val (.long j8), .second, .val (.long j10), .second, .val (.long j12), .second, .val (.long j14), .second, .val (.long j16), .second, .val (.long j18), .second, .val (.long j20), .second, .val (.int (1 : Int32)), .val (.long (j20 * (16 : Int64))), .second, .unset] [(.long (j20 * (16 : Int64)))])) _
  refine XS.lload X0.here hx rfl (hb hby at_213) rfl ?_
  show Steps p.tables e below (T0.setTop (mkF m 215 #[.val (.long j0), .second, .val (.long j2), .second, .val (.int i4), .val (.int i5), .val (.long j6), .second, .val (.long j8), .second, .val (.long j10), .second, .val (.long j12), .second, .val (.long j14), .second, .val (.long j16), .second, .val (.long j18), .second, .val (.long j20), .second, .val (.int (1 : Int32)), .val (.long (j20 * (16 : Int64))), .second, .unset] [(.long j18), (.long (j20 * (16 : Int64)))])) _
  refine XS.lcmp X0.here hx rfl (hb hby at_215) rfl ?_
  show Steps p.tables e below (T0.setTop (mkF m 216 #[.val (.long j0), .second, .val (.long j2), .second, .val (.int i4), .val (.int i5), .val (.long j6), .second, .val (.long j8), .second, .val (.long j10), .second, .val (.long j12), .second, .val (.long j14), .second, .val (.long j16), .second, .val (.long j18), .second, .val (.long j20), .second, .val (.int (1 : Int32)), .val (.long (j20 * (16 : Int64))), .second, .unset] [(.int (lcmpW (j20 * (16 : Int64)) j18))])) _
  refine XS.ifYes X0.here hx rfl (pc0 := 216) (pc' := 235) rfl (hb hby at_216) rfl ((if0 _ _).trans (tlt hc216).2.2.1) (by decide) (by decide) ?_
  show Steps p.tables e below (T0.setTop (mkF m 235 #[.val (.long j0), .second, .val (.long j2), .second, .val (.int i4), .val (.int i5), .val (.long j6), .second, .val (.long j8), .second, .val (.long j10), .second, .val (.long j12), .second, .val (.long j14), .second, .val (.long j16), .second, .val (.long j18), .second, .val (.long j20), .second, .val (.int (1 : Int32)), .val (.long (j20 * (16 : Int64))), .second, .unset] [])) _
  refine XS.iconst X0.here hx rfl (hb hby at_235) ?_
  show Steps p.tables e below (T0.setTop (mkF m 236 #[.val (.long j0), .second, .val (.long j2), .second, .val (.int i4), .val (.int i5), .val (.long j6), .second, .val (.long j8), .second, .val (.long j10), .second, .val (.long j12), .second, .val (.long j14), .second, .val (.long j16), .second, .val (.long j18), .second, .val (.long j20), .second, .val (.int (1 : Int32)), .val (.long (j20 * (16 : Int64))), .second, .unset] [(.int (0 : Int32))])) _
  refine XS.istore X0.here hx rfl (hb hby at_236) rfl (l' := #[.val (.long j0), .second, .val (.long j2), .second, .val (.int i4), .val (.int i5), .val (.long j6), .second, .val (.long j8), .second, .val (.long j10), .second, .val (.long j12), .second, .val (.long j14), .second, .val (.long j16), .second, .val (.long j18), .second, .val (.long j20), .second, .val (.int (1 : Int32)), .val (.long (j20 * (16 : Int64))), .second, .val (.int (0 : Int32))]) rfl ?_
  show Steps p.tables e below (T0.setTop (mkF m 238 #[.val (.long j0), .second, .val (.long j2), .second, .val (.int i4), .val (.int i5), .val (.long j6), .second, .val (.long j8), .second, .val (.long j10), .second, .val (.long j12), .second, .val (.long j14), .second, .val (.long j16), .second, .val (.long j18), .second, .val (.long j20), .second, .val (.int (1 : Int32)), .val (.long (j20 * (16 : Int64))), .second, .val (.int (0 : Int32))] [])) _
  refine XS.iload X0.here hx rfl (hb hby at_238) rfl ?_
  show Steps p.tables e below (T0.setTop (mkF m 240 #[.val (.long j0), .second, .val (.long j2), .second, .val (.int i4), .val (.int i5), .val (.long j6), .second, .val (.long j8), .second, .val (.long j10), .second, .val (.long j12), .second, .val (.long j14), .second, .val (.long j16), .second, .val (.long j18), .second, .val (.long j20), .second, .val (.int (1 : Int32)), .val (.long (j20 * (16 : Int64))), .second, .val (.int (0 : Int32))] [(.int (0 : Int32))])) _
  refine XS.ifNo X0.here hx rfl (hb hby at_240) rfl ((if0 _ _).trans (teq (rfl : (0 : Int32) = (0 : Int32))).2) ?_
  show Steps p.tables e below (T0.setTop (mkF m 243 #[.val (.long j0), .second, .val (.long j2), .second, .val (.int i4), .val (.int i5), .val (.long j6), .second, .val (.long j8), .second, .val (.long j10), .second, .val (.long j12), .second, .val (.long j14), .second, .val (.long j16), .second, .val (.long j18), .second, .val (.long j20), .second, .val (.int (1 : Int32)), .val (.long (j20 * (16 : Int64))), .second, .val (.int (0 : Int32))] [])) _
  refine XS.iconst X0.here hx rfl (hb hby at_243) ?_
  show Steps p.tables e below (T0.setTop (mkF m 244 #[.val (.long j0), .second, .val (.long j2), .second, .val (.int i4), .val (.int i5), .val (.long j6), .second, .val (.long j8), .second, .val (.long j10), .second, .val (.long j12), .second, .val (.long j14), .second, .val (.long j16), .second, .val (.long j18), .second, .val (.long j20), .second, .val (.int (1 : Int32)), .val (.long (j20 * (16 : Int64))), .second, .val (.int (0 : Int32))] [(.int (1 : Int32))])) _
  refine XS.goto X0.here hx rfl (pc0 := 244) (pc' := 248) rfl (hb hby at_244) (by decide) (by decide) ?_
  exact kt
set_option maxRecDepth 65536 in
set_option maxHeartbeats 40000000 in
theorem sgD_ftf {p : Program} {l : Launch} {e : Env} {s : State} {m : MethodId} {args : Array Value} {below : List Frame} {meth : Method} {c : Code} {T0 : State} {locs : List Loc} {Z : State} {a0 : Array Value} {h0 : Heap} {n0 : Nat} (j0 : Int64) (j2 : Int64) (i4 : Int32) (i5 : Int32) (j6 : Int64) (j8 : Int64) (j10 : Int64) (j12 : Int64) (j14 : Int64) (j16 : Int64) (j18 : Int64) (j20 : Int64)
    (X0 : Stand p l e room_1 s m args below meth c T0 locs 0 0) (hx : p.tables.exec = Jvm.exec) (hZ : Z.Warmed39 s.vm) (hw : ∀ d ∈ tables_1, d.before a0 Z = true) (hby : c.code = code) (hml : c.maxLocals = 26) (hown : s.vm.findClass "com/example/tab30/tab30/book/SegmentLargestBlockPinLaw" = some m.cls) (e0 : T0.heap = h0) (Z0 : n0 ≤ h0.size) (N0 : Fr n0 locs) (hc139 : (0 : Int32) < (lcmpW j20 (0 : Int64))) (hc151 : (lcmpW (j20 &&& (j20 - (1 : Int64))) (0 : Int64)) = (0 : Int32)) (hc162 : ¬ ((lcmpW (j20 &&& (1229782938247303441 : Int64)) (0 : Int64)) = (0 : Int32))) (hc174 : ¬ ((1 : Int32) = (0 : Int32))) (hc184 : ¬ ((0 : Int32) < (lcmpW j20 j18))) (hnz195 : ¬ (j20 = (0 : Int64))) (hc198 : (lcmpW ((j12 - (1 : Int64)) % j20) (0 : Int64)) = (0 : Int32)) (hc216 : ¬ ((0 : Int32) < (lcmpW (j20 * (16 : Int64)) j18))) (hnz225 : ¬ ((j20 * (16 : Int64)) = (0 : Int64))) (hc228 : ¬ ((lcmpW ((j12 - (1 : Int64)) % (j20 * (16 : Int64))) (0 : Int64)) = (0 : Int32))) :
    ∃ (T' : State) (h' : Heap) (locs' : List Loc) (Ls : Array Slot), Stand p l e room_1 s m args below meth c T' locs' 0 0 ∧ T'.heap = h' ∧ Fr n0 locs' ∧ Keep h0 h' [] ∧
      ∀ target, Steps p.tables e below (T'.setTop (mkF m 248 Ls [(.int (1 : Int32))])) target → Steps p.tables e below (T0.setTop (mkF m 135 #[.val (.long j0), .second, .val (.long j2), .second, .val (.int i4), .val (.int i5), .val (.long j6), .second, .val (.long j8), .second, .val (.long j10), .second, .val (.long j12), .second, .val (.long j14), .second, .val (.long j16), .second, .val (.long j18), .second, .val (.long j20), .second, .unset, .unset, .unset, .unset] [])) target := by

  refine ⟨T0, _, _, #[.val (.long j0), .second, .val (.long j2), .second, .val (.int i4), .val (.int i5), .val (.long j6), .second, .val (.long j8), .second, .val (.long j10), .second, .val (.long j12), .second, .val (.long j14), .second, .val (.long j16), .second, .val (.long j18), .second, .val (.long j20), .second, .val (.int (1 : Int32)), .val (.long (j20 * (16 : Int64))), .second, .val (.int (0 : Int32))], X0, e0, N0, (Keep.refl h0 []), fun target kt => ?_⟩
  show Steps p.tables e below (T0.setTop (mkF m 135 #[.val (.long j0), .second, .val (.long j2), .second, .val (.int i4), .val (.int i5), .val (.long j6), .second, .val (.long j8), .second, .val (.long j10), .second, .val (.long j12), .second, .val (.long j14), .second, .val (.long j16), .second, .val (.long j18), .second, .val (.long j20), .second, .unset, .unset, .unset, .unset] [])) _
  refine XS.lload X0.here hx rfl (hb hby at_135) rfl ?_
  show Steps p.tables e below (T0.setTop (mkF m 137 #[.val (.long j0), .second, .val (.long j2), .second, .val (.int i4), .val (.int i5), .val (.long j6), .second, .val (.long j8), .second, .val (.long j10), .second, .val (.long j12), .second, .val (.long j14), .second, .val (.long j16), .second, .val (.long j18), .second, .val (.long j20), .second, .unset, .unset, .unset, .unset] [(.long j20)])) _
  refine XS.lconst X0.here hx rfl (hb hby at_137) ?_
  show Steps p.tables e below (T0.setTop (mkF m 138 #[.val (.long j0), .second, .val (.long j2), .second, .val (.int i4), .val (.int i5), .val (.long j6), .second, .val (.long j8), .second, .val (.long j10), .second, .val (.long j12), .second, .val (.long j14), .second, .val (.long j16), .second, .val (.long j18), .second, .val (.long j20), .second, .unset, .unset, .unset, .unset] [(.long (0 : Int64)), (.long j20)])) _
  refine XS.lcmp X0.here hx rfl (hb hby at_138) rfl ?_
  show Steps p.tables e below (T0.setTop (mkF m 139 #[.val (.long j0), .second, .val (.long j2), .second, .val (.int i4), .val (.int i5), .val (.long j6), .second, .val (.long j8), .second, .val (.long j10), .second, .val (.long j12), .second, .val (.long j14), .second, .val (.long j16), .second, .val (.long j18), .second, .val (.long j20), .second, .unset, .unset, .unset, .unset] [(.int (lcmpW j20 (0 : Int64)))])) _
  refine XS.ifNo X0.here hx rfl (hb hby at_139) rfl ((if0 _ _).trans (tlt hc139).2.2.2) ?_
  show Steps p.tables e below (T0.setTop (mkF m 142 #[.val (.long j0), .second, .val (.long j2), .second, .val (.int i4), .val (.int i5), .val (.long j6), .second, .val (.long j8), .second, .val (.long j10), .second, .val (.long j12), .second, .val (.long j14), .second, .val (.long j16), .second, .val (.long j18), .second, .val (.long j20), .second, .unset, .unset, .unset, .unset] [])) _
  refine XS.lload X0.here hx rfl (hb hby at_142) rfl ?_
  show Steps p.tables e below (T0.setTop (mkF m 144 #[.val (.long j0), .second, .val (.long j2), .second, .val (.int i4), .val (.int i5), .val (.long j6), .second, .val (.long j8), .second, .val (.long j10), .second, .val (.long j12), .second, .val (.long j14), .second, .val (.long j16), .second, .val (.long j18), .second, .val (.long j20), .second, .unset, .unset, .unset, .unset] [(.long j20)])) _
  refine XS.lload X0.here hx rfl (hb hby at_144) rfl ?_
  show Steps p.tables e below (T0.setTop (mkF m 146 #[.val (.long j0), .second, .val (.long j2), .second, .val (.int i4), .val (.int i5), .val (.long j6), .second, .val (.long j8), .second, .val (.long j10), .second, .val (.long j12), .second, .val (.long j14), .second, .val (.long j16), .second, .val (.long j18), .second, .val (.long j20), .second, .unset, .unset, .unset, .unset] [(.long j20), (.long j20)])) _
  refine XS.lconst X0.here hx rfl (hb hby at_146) ?_
  show Steps p.tables e below (T0.setTop (mkF m 147 #[.val (.long j0), .second, .val (.long j2), .second, .val (.int i4), .val (.int i5), .val (.long j6), .second, .val (.long j8), .second, .val (.long j10), .second, .val (.long j12), .second, .val (.long j14), .second, .val (.long j16), .second, .val (.long j18), .second, .val (.long j20), .second, .unset, .unset, .unset, .unset] [(.long (1 : Int64)), (.long j20), (.long j20)])) _
  refine XS.lsub X0.here hx rfl (hb hby at_147) rfl ?_
  show Steps p.tables e below (T0.setTop (mkF m 148 #[.val (.long j0), .second, .val (.long j2), .second, .val (.int i4), .val (.int i5), .val (.long j6), .second, .val (.long j8), .second, .val (.long j10), .second, .val (.long j12), .second, .val (.long j14), .second, .val (.long j16), .second, .val (.long j18), .second, .val (.long j20), .second, .unset, .unset, .unset, .unset] [(.long (j20 - (1 : Int64))), (.long j20)])) _
  refine XS.land X0.here hx rfl (hb hby at_148) rfl ?_
  show Steps p.tables e below (T0.setTop (mkF m 149 #[.val (.long j0), .second, .val (.long j2), .second, .val (.int i4), .val (.int i5), .val (.long j6), .second, .val (.long j8), .second, .val (.long j10), .second, .val (.long j12), .second, .val (.long j14), .second, .val (.long j16), .second, .val (.long j18), .second, .val (.long j20), .second, .unset, .unset, .unset, .unset] [(.long (j20 &&& (j20 - (1 : Int64))))])) _
  refine XS.lconst X0.here hx rfl (hb hby at_149) ?_
  show Steps p.tables e below (T0.setTop (mkF m 150 #[.val (.long j0), .second, .val (.long j2), .second, .val (.int i4), .val (.int i5), .val (.long j6), .second, .val (.long j8), .second, .val (.long j10), .second, .val (.long j12), .second, .val (.long j14), .second, .val (.long j16), .second, .val (.long j18), .second, .val (.long j20), .second, .unset, .unset, .unset, .unset] [(.long (0 : Int64)), (.long (j20 &&& (j20 - (1 : Int64))))])) _
  refine XS.lcmp X0.here hx rfl (hb hby at_150) rfl ?_
  show Steps p.tables e below (T0.setTop (mkF m 151 #[.val (.long j0), .second, .val (.long j2), .second, .val (.int i4), .val (.int i5), .val (.long j6), .second, .val (.long j8), .second, .val (.long j10), .second, .val (.long j12), .second, .val (.long j14), .second, .val (.long j16), .second, .val (.long j18), .second, .val (.long j20), .second, .unset, .unset, .unset, .unset] [(.int (lcmpW (j20 &&& (j20 - (1 : Int64))) (0 : Int64)))])) _
  refine XS.ifNo X0.here hx rfl (hb hby at_151) rfl ((if0 _ _).trans (teq hc151).2) ?_
  show Steps p.tables e below (T0.setTop (mkF m 154 #[.val (.long j0), .second, .val (.long j2), .second, .val (.int i4), .val (.int i5), .val (.long j6), .second, .val (.long j8), .second, .val (.long j10), .second, .val (.long j12), .second, .val (.long j14), .second, .val (.long j16), .second, .val (.long j18), .second, .val (.long j20), .second, .unset, .unset, .unset, .unset] [])) _
  refine XS.lload X0.here hx rfl (hb hby at_154) rfl ?_
  show Steps p.tables e below (T0.setTop (mkF m 156 #[.val (.long j0), .second, .val (.long j2), .second, .val (.int i4), .val (.int i5), .val (.long j6), .second, .val (.long j8), .second, .val (.long j10), .second, .val (.long j12), .second, .val (.long j14), .second, .val (.long j16), .second, .val (.long j18), .second, .val (.long j20), .second, .unset, .unset, .unset, .unset] [(.long j20)])) _
  refine X0.ldc2Long hx hown (mvT hZ (hw _ (List.mem_of_getElem? (i := 15) rfl))) (g := (mkF m 156 #[.val (.long j0), .second, .val (.long j2), .second, .val (.int i4), .val (.int i5), .val (.long j6), .second, .val (.long j8), .second, .val (.long j10), .second, .val (.long j12), .second, .val (.long j14), .second, .val (.long j16), .second, .val (.long j18), .second, .val (.long j20), .second, .unset, .unset, .unset, .unset] [(.long j20)])) rfl (hb hby at_156) _ ?_
  show Steps p.tables e below (T0.setTop (mkF m 159 #[.val (.long j0), .second, .val (.long j2), .second, .val (.int i4), .val (.int i5), .val (.long j6), .second, .val (.long j8), .second, .val (.long j10), .second, .val (.long j12), .second, .val (.long j14), .second, .val (.long j16), .second, .val (.long j18), .second, .val (.long j20), .second, .unset, .unset, .unset, .unset] [(.long (1229782938247303441 : Int64)), (.long j20)])) _
  refine XS.land X0.here hx rfl (hb hby at_159) rfl ?_
  show Steps p.tables e below (T0.setTop (mkF m 160 #[.val (.long j0), .second, .val (.long j2), .second, .val (.int i4), .val (.int i5), .val (.long j6), .second, .val (.long j8), .second, .val (.long j10), .second, .val (.long j12), .second, .val (.long j14), .second, .val (.long j16), .second, .val (.long j18), .second, .val (.long j20), .second, .unset, .unset, .unset, .unset] [(.long (j20 &&& (1229782938247303441 : Int64)))])) _
  refine XS.lconst X0.here hx rfl (hb hby at_160) ?_
  show Steps p.tables e below (T0.setTop (mkF m 161 #[.val (.long j0), .second, .val (.long j2), .second, .val (.int i4), .val (.int i5), .val (.long j6), .second, .val (.long j8), .second, .val (.long j10), .second, .val (.long j12), .second, .val (.long j14), .second, .val (.long j16), .second, .val (.long j18), .second, .val (.long j20), .second, .unset, .unset, .unset, .unset] [(.long (0 : Int64)), (.long (j20 &&& (1229782938247303441 : Int64)))])) _
  refine XS.lcmp X0.here hx rfl (hb hby at_161) rfl ?_
  show Steps p.tables e below (T0.setTop (mkF m 162 #[.val (.long j0), .second, .val (.long j2), .second, .val (.int i4), .val (.int i5), .val (.long j6), .second, .val (.long j8), .second, .val (.long j10), .second, .val (.long j12), .second, .val (.long j14), .second, .val (.long j16), .second, .val (.long j18), .second, .val (.long j20), .second, .unset, .unset, .unset, .unset] [(.int (lcmpW (j20 &&& (1229782938247303441 : Int64)) (0 : Int64)))])) _
  refine XS.ifNo X0.here hx rfl (hb hby at_162) rfl ((if0 _ _).trans (feq hc162).1) ?_
  show Steps p.tables e below (T0.setTop (mkF m 165 #[.val (.long j0), .second, .val (.long j2), .second, .val (.int i4), .val (.int i5), .val (.long j6), .second, .val (.long j8), .second, .val (.long j10), .second, .val (.long j12), .second, .val (.long j14), .second, .val (.long j16), .second, .val (.long j18), .second, .val (.long j20), .second, .unset, .unset, .unset, .unset] [])) _
  refine XS.iconst X0.here hx rfl (hb hby at_165) ?_
  show Steps p.tables e below (T0.setTop (mkF m 166 #[.val (.long j0), .second, .val (.long j2), .second, .val (.int i4), .val (.int i5), .val (.long j6), .second, .val (.long j8), .second, .val (.long j10), .second, .val (.long j12), .second, .val (.long j14), .second, .val (.long j16), .second, .val (.long j18), .second, .val (.long j20), .second, .unset, .unset, .unset, .unset] [(.int (1 : Int32))])) _
  refine XS.goto X0.here hx rfl (pc0 := 166) (pc' := 170) rfl (hb hby at_166) (by decide) (by decide) ?_
  show Steps p.tables e below (T0.setTop (mkF m 170 #[.val (.long j0), .second, .val (.long j2), .second, .val (.int i4), .val (.int i5), .val (.long j6), .second, .val (.long j8), .second, .val (.long j10), .second, .val (.long j12), .second, .val (.long j14), .second, .val (.long j16), .second, .val (.long j18), .second, .val (.long j20), .second, .unset, .unset, .unset, .unset] [(.int (1 : Int32))])) _
  refine XS.istore X0.here hx rfl (hb hby at_170) rfl (l' := #[.val (.long j0), .second, .val (.long j2), .second, .val (.int i4), .val (.int i5), .val (.long j6), .second, .val (.long j8), .second, .val (.long j10), .second, .val (.long j12), .second, .val (.long j14), .second, .val (.long j16), .second, .val (.long j18), .second, .val (.long j20), .second, .val (.int (1 : Int32)), .unset, .unset, .unset]) rfl ?_
  show Steps p.tables e below (T0.setTop (mkF m 172 #[.val (.long j0), .second, .val (.long j2), .second, .val (.int i4), .val (.int i5), .val (.long j6), .second, .val (.long j8), .second, .val (.long j10), .second, .val (.long j12), .second, .val (.long j14), .second, .val (.long j16), .second, .val (.long j18), .second, .val (.long j20), .second, .val (.int (1 : Int32)), .unset, .unset, .unset] [])) _
  refine XS.iload X0.here hx rfl (hb hby at_172) rfl ?_
  show Steps p.tables e below (T0.setTop (mkF m 174 #[.val (.long j0), .second, .val (.long j2), .second, .val (.int i4), .val (.int i5), .val (.long j6), .second, .val (.long j8), .second, .val (.long j10), .second, .val (.long j12), .second, .val (.long j14), .second, .val (.long j16), .second, .val (.long j18), .second, .val (.long j20), .second, .val (.int (1 : Int32)), .unset, .unset, .unset] [(.int (1 : Int32))])) _
  refine XS.ifYes X0.here hx rfl (pc0 := 174) (pc' := 179) rfl (hb hby at_174) rfl ((if0 _ _).trans (feq hc174).2) (by decide) (by decide) ?_
  show Steps p.tables e below (T0.setTop (mkF m 179 #[.val (.long j0), .second, .val (.long j2), .second, .val (.int i4), .val (.int i5), .val (.long j6), .second, .val (.long j8), .second, .val (.long j10), .second, .val (.long j12), .second, .val (.long j14), .second, .val (.long j16), .second, .val (.long j18), .second, .val (.long j20), .second, .val (.int (1 : Int32)), .unset, .unset, .unset] [])) _
  refine XS.lload X0.here hx rfl (hb hby at_179) rfl ?_
  show Steps p.tables e below (T0.setTop (mkF m 181 #[.val (.long j0), .second, .val (.long j2), .second, .val (.int i4), .val (.int i5), .val (.long j6), .second, .val (.long j8), .second, .val (.long j10), .second, .val (.long j12), .second, .val (.long j14), .second, .val (.long j16), .second, .val (.long j18), .second, .val (.long j20), .second, .val (.int (1 : Int32)), .unset, .unset, .unset] [(.long j20)])) _
  refine XS.lload X0.here hx rfl (hb hby at_181) rfl ?_
  show Steps p.tables e below (T0.setTop (mkF m 183 #[.val (.long j0), .second, .val (.long j2), .second, .val (.int i4), .val (.int i5), .val (.long j6), .second, .val (.long j8), .second, .val (.long j10), .second, .val (.long j12), .second, .val (.long j14), .second, .val (.long j16), .second, .val (.long j18), .second, .val (.long j20), .second, .val (.int (1 : Int32)), .unset, .unset, .unset] [(.long j18), (.long j20)])) _
  refine XS.lcmp X0.here hx rfl (hb hby at_183) rfl ?_
  show Steps p.tables e below (T0.setTop (mkF m 184 #[.val (.long j0), .second, .val (.long j2), .second, .val (.int i4), .val (.int i5), .val (.long j6), .second, .val (.long j8), .second, .val (.long j10), .second, .val (.long j12), .second, .val (.long j14), .second, .val (.long j16), .second, .val (.long j18), .second, .val (.long j20), .second, .val (.int (1 : Int32)), .unset, .unset, .unset] [(.int (lcmpW j20 j18))])) _
  refine XS.ifYes X0.here hx rfl (pc0 := 184) (pc' := 189) rfl (hb hby at_184) rfl ((if0 _ _).trans (flt hc184).2.2.2) (by decide) (by decide) ?_
  show Steps p.tables e below (T0.setTop (mkF m 189 #[.val (.long j0), .second, .val (.long j2), .second, .val (.int i4), .val (.int i5), .val (.long j6), .second, .val (.long j8), .second, .val (.long j10), .second, .val (.long j12), .second, .val (.long j14), .second, .val (.long j16), .second, .val (.long j18), .second, .val (.long j20), .second, .val (.int (1 : Int32)), .unset, .unset, .unset] [])) _
  refine XS.lload X0.here hx rfl (hb hby at_189) rfl ?_
  show Steps p.tables e below (T0.setTop (mkF m 191 #[.val (.long j0), .second, .val (.long j2), .second, .val (.int i4), .val (.int i5), .val (.long j6), .second, .val (.long j8), .second, .val (.long j10), .second, .val (.long j12), .second, .val (.long j14), .second, .val (.long j16), .second, .val (.long j18), .second, .val (.long j20), .second, .val (.int (1 : Int32)), .unset, .unset, .unset] [(.long j12)])) _
  refine XS.lconst X0.here hx rfl (hb hby at_191) ?_
  show Steps p.tables e below (T0.setTop (mkF m 192 #[.val (.long j0), .second, .val (.long j2), .second, .val (.int i4), .val (.int i5), .val (.long j6), .second, .val (.long j8), .second, .val (.long j10), .second, .val (.long j12), .second, .val (.long j14), .second, .val (.long j16), .second, .val (.long j18), .second, .val (.long j20), .second, .val (.int (1 : Int32)), .unset, .unset, .unset] [(.long (1 : Int64)), (.long j12)])) _
  refine XS.lsub X0.here hx rfl (hb hby at_192) rfl ?_
  show Steps p.tables e below (T0.setTop (mkF m 193 #[.val (.long j0), .second, .val (.long j2), .second, .val (.int i4), .val (.int i5), .val (.long j6), .second, .val (.long j8), .second, .val (.long j10), .second, .val (.long j12), .second, .val (.long j14), .second, .val (.long j16), .second, .val (.long j18), .second, .val (.long j20), .second, .val (.int (1 : Int32)), .unset, .unset, .unset] [(.long (j12 - (1 : Int64)))])) _
  refine XS.lload X0.here hx rfl (hb hby at_193) rfl ?_
  show Steps p.tables e below (T0.setTop (mkF m 195 #[.val (.long j0), .second, .val (.long j2), .second, .val (.int i4), .val (.int i5), .val (.long j6), .second, .val (.long j8), .second, .val (.long j10), .second, .val (.long j12), .second, .val (.long j14), .second, .val (.long j16), .second, .val (.long j18), .second, .val (.long j20), .second, .val (.int (1 : Int32)), .unset, .unset, .unset] [(.long j20), (.long (j12 - (1 : Int64)))])) _
  refine XS.lrem X0.here hx rfl (hb hby at_195) rfl hnz195 ?_
  rw [lrem_mod]
  show Steps p.tables e below (T0.setTop (mkF m 196 #[.val (.long j0), .second, .val (.long j2), .second, .val (.int i4), .val (.int i5), .val (.long j6), .second, .val (.long j8), .second, .val (.long j10), .second, .val (.long j12), .second, .val (.long j14), .second, .val (.long j16), .second, .val (.long j18), .second, .val (.long j20), .second, .val (.int (1 : Int32)), .unset, .unset, .unset] [(.long ((j12 - (1 : Int64)) % j20))])) _
  refine XS.lconst X0.here hx rfl (hb hby at_196) ?_
  show Steps p.tables e below (T0.setTop (mkF m 197 #[.val (.long j0), .second, .val (.long j2), .second, .val (.int i4), .val (.int i5), .val (.long j6), .second, .val (.long j8), .second, .val (.long j10), .second, .val (.long j12), .second, .val (.long j14), .second, .val (.long j16), .second, .val (.long j18), .second, .val (.long j20), .second, .val (.int (1 : Int32)), .unset, .unset, .unset] [(.long (0 : Int64)), (.long ((j12 - (1 : Int64)) % j20))])) _
  refine XS.lcmp X0.here hx rfl (hb hby at_197) rfl ?_
  show Steps p.tables e below (T0.setTop (mkF m 198 #[.val (.long j0), .second, .val (.long j2), .second, .val (.int i4), .val (.int i5), .val (.long j6), .second, .val (.long j8), .second, .val (.long j10), .second, .val (.long j12), .second, .val (.long j14), .second, .val (.long j16), .second, .val (.long j18), .second, .val (.long j20), .second, .val (.int (1 : Int32)), .unset, .unset, .unset] [(.int (lcmpW ((j12 - (1 : Int64)) % j20) (0 : Int64)))])) _
  refine XS.ifYes X0.here hx rfl (pc0 := 198) (pc' := 203) rfl (hb hby at_198) rfl ((if0 _ _).trans (teq hc198).1) (by decide) (by decide) ?_
  show Steps p.tables e below (T0.setTop (mkF m 203 #[.val (.long j0), .second, .val (.long j2), .second, .val (.int i4), .val (.int i5), .val (.long j6), .second, .val (.long j8), .second, .val (.long j10), .second, .val (.long j12), .second, .val (.long j14), .second, .val (.long j16), .second, .val (.long j18), .second, .val (.long j20), .second, .val (.int (1 : Int32)), .unset, .unset, .unset] [])) _
  refine XS.lload X0.here hx rfl (hb hby at_203) rfl ?_
  show Steps p.tables e below (T0.setTop (mkF m 205 #[.val (.long j0), .second, .val (.long j2), .second, .val (.int i4), .val (.int i5), .val (.long j6), .second, .val (.long j8), .second, .val (.long j10), .second, .val (.long j12), .second, .val (.long j14), .second, .val (.long j16), .second, .val (.long j18), .second, .val (.long j20), .second, .val (.int (1 : Int32)), .unset, .unset, .unset] [(.long j20)])) _
  refine X0.ldc2Long hx hown (mvT hZ (hw _ (List.mem_of_getElem? (i := 16) rfl))) (g := (mkF m 205 #[.val (.long j0), .second, .val (.long j2), .second, .val (.int i4), .val (.int i5), .val (.long j6), .second, .val (.long j8), .second, .val (.long j10), .second, .val (.long j12), .second, .val (.long j14), .second, .val (.long j16), .second, .val (.long j18), .second, .val (.long j20), .second, .val (.int (1 : Int32)), .unset, .unset, .unset] [(.long j20)])) rfl (hb hby at_205) _ ?_
  show Steps p.tables e below (T0.setTop (mkF m 208 #[.val (.long j0), .second, .val (.long j2), .second, .val (.int i4), .val (.int i5), .val (.long j6), .second, .val (.long j8), .second, .val (.long j10), .second, .val (.long j12), .second, .val (.long j14), .second, .val (.long j16), .second, .val (.long j18), .second, .val (.long j20), .second, .val (.int (1 : Int32)), .unset, .unset, .unset] [(.long (16 : Int64)), (.long j20)])) _
  refine XS.lmul X0.here hx rfl (hb hby at_208) rfl ?_
  show Steps p.tables e below (T0.setTop (mkF m 209 #[.val (.long j0), .second, .val (.long j2), .second, .val (.int i4), .val (.int i5), .val (.long j6), .second, .val (.long j8), .second, .val (.long j10), .second, .val (.long j12), .second, .val (.long j14), .second, .val (.long j16), .second, .val (.long j18), .second, .val (.long j20), .second, .val (.int (1 : Int32)), .unset, .unset, .unset] [(.long (j20 * (16 : Int64)))])) _
  refine XS.lstore X0.here hx rfl (hb hby at_209) rfl (l' := #[.val (.long j0), .second, .val (.long j2), .second, .val (.int i4), .val (.int i5), .val (.long j6), .second, .val (.long j8), .second, .val (.long j10), .second, .val (.long j12), .second, .val (.long j14), .second, .val (.long j16), .second, .val (.long j18), .second, .val (.long j20), .second, .val (.int (1 : Int32)), .val (.long (j20 * (16 : Int64))), .second, .unset]) rfl ?_
  show Steps p.tables e below (T0.setTop (mkF m 211 #[.val (.long j0), .second, .val (.long j2), .second, .val (.int i4), .val (.int i5), .val (.long j6), .second, .val (.long j8), .second, .val (.long j10), .second, .val (.long j12), .second, .val (.long j14), .second, .val (.long j16), .second, .val (.long j18), .second, .val (.long j20), .second, .val (.int (1 : Int32)), .val (.long (j20 * (16 : Int64))), .second, .unset] [])) _
  refine XS.lload X0.here hx rfl (hb hby at_211) rfl ?_
  show Steps p.tables e below (T0.setTop (mkF m 213 #[.val (.long j0), .second, .val (.long j2), .second, .val (.int i4), .val (.int i5), .val (.long j6), .second, .val (.long j8), .second, .val (.long j10), .second, .val (.long j12), .second, .val (.long j14), .second, .val (.long j16), .second, .val (.long j18), .second, .val (.long j20), .second, .val (.int (1 : Int32)), .val (.long (j20 * (16 : Int64))), .second, .unset] [(.long (j20 * (16 : Int64)))])) _
  refine XS.lload X0.here hx rfl (hb hby at_213) rfl ?_
  show Steps p.tables e below (T0.setTop (mkF m 215 #[.val (.long j0), .second, .val (.long j2), .second, .val (.int i4), .val (.int i5), .val (.long j6), .second, .val (.long j8), .second, .val (.long j10), .second, .val (.long j12), .second, .val (.long j14), .second, .val (.long j16), .second, .val (.long j18), .second, .val (.long j20), .second, .val (.int (1 : Int32)), .val (.long (j20 * (16 : Int64))), .second, .unset] [(.long j18), (.long (j20 * (16 : Int64)))])) _
  refine XS.lcmp X0.here hx rfl (hb hby at_215) rfl ?_
  show Steps p.tables e below (T0.setTop (mkF m 216 #[.val (.long j0), .second, .val (.long j2), .second, .val (.int i4), .val (.int i5), .val (.long j6), .second, .val (.long j8), .second, .val (.long j10), .second, .val (.long j12), .second, .val (.long j14), .second, .val (.long j16), .second, .val (.long j18), .second, .val (.long j20), .second, .val (.int (1 : Int32)), .val (.long (j20 * (16 : Int64))), .second, .unset] [(.int (lcmpW (j20 * (16 : Int64)) j18))])) _
  refine XS.ifNo X0.here hx rfl (hb hby at_216) rfl ((if0 _ _).trans (flt hc216).2.2.1) ?_
  show Steps p.tables e below (T0.setTop (mkF m 219 #[.val (.long j0), .second, .val (.long j2), .second, .val (.int i4), .val (.int i5), .val (.long j6), .second, .val (.long j8), .second, .val (.long j10), .second, .val (.long j12), .second, .val (.long j14), .second, .val (.long j16), .second, .val (.long j18), .second, .val (.long j20), .second, .val (.int (1 : Int32)), .val (.long (j20 * (16 : Int64))), .second, .unset] [])) _
  refine XS.lload X0.here hx rfl (hb hby at_219) rfl ?_
  show Steps p.tables e below (T0.setTop (mkF m 221 #[.val (.long j0), .second, .val (.long j2), .second, .val (.int i4), .val (.int i5), .val (.long j6), .second, .val (.long j8), .second, .val (.long j10), .second, .val (.long j12), .second, .val (.long j14), .second, .val (.long j16), .second, .val (.long j18), .second, .val (.long j20), .second, .val (.int (1 : Int32)), .val (.long (j20 * (16 : Int64))), .second, .unset] [(.long j12)])) _
  refine XS.lconst X0.here hx rfl (hb hby at_221) ?_
  show Steps p.tables e below (T0.setTop (mkF m 222 #[.val (.long j0), .second, .val (.long j2), .second, .val (.int i4), .val (.int i5), .val (.long j6), .second, .val (.long j8), .second, .val (.long j10), .second, .val (.long j12), .second, .val (.long j14), .second, .val (.long j16), .second, .val (.long j18), .second, .val (.long j20), .second, .val (.int (1 : Int32)), .val (.long (j20 * (16 : Int64))), .second, .unset] [(.long (1 : Int64)), (.long j12)])) _
  refine XS.lsub X0.here hx rfl (hb hby at_222) rfl ?_
  show Steps p.tables e below (T0.setTop (mkF m 223 #[.val (.long j0), .second, .val (.long j2), .second, .val (.int i4), .val (.int i5), .val (.long j6), .second, .val (.long j8), .second, .val (.long j10), .second, .val (.long j12), .second, .val (.long j14), .second, .val (.long j16), .second, .val (.long j18), .second, .val (.long j20), .second, .val (.int (1 : Int32)), .val (.long (j20 * (16 : Int64))), .second, .unset] [(.long (j12 - (1 : Int64)))])) _
  refine XS.lload X0.here hx rfl (hb hby at_223) rfl ?_
  show Steps p.tables e below (T0.setTop (mkF m 225 #[.val (.long j0), .second, .val (.long j2), .second, .val (.int i4), .val (.int i5), .val (.long j6), .second, .val (.long j8), .second, .val (.long j10), .second, .val (.long j12), .second, .val (.long j14), .second, .val (.long j16), .second, .val (.long j18), .second, .val (.long j20), .second, .val (.int (1 : Int32)), .val (.long (j20 * (16 : Int64))), .second, .unset] [(.long (j20 * (16 : Int64))), (.long (j12 - (1 : Int64)))])) _
  refine XS.lrem X0.here hx rfl (hb hby at_225) rfl hnz225 ?_
  rw [lrem_mod]
  show Steps p.tables e below (T0.setTop (mkF m 226 #[.val (.long j0), .second, .val (.long j2), .second, .val (.int i4), .val (.int i5), .val (.long j6), .second, .val (.long j8), .second, .val (.long j10), .second, .val (.long j12), .second, .val (.long j14), .second, .val (.long j16), .second, .val (.long j18), .second, .val (.long j20), .second, .val (.int (1 : Int32)), .val (.long (j20 * (16 : Int64))), .second, .unset] [(.long ((j12 - (1 : Int64)) % (j20 * (16 : Int64))))])) _
  refine XS.lconst X0.here hx rfl (hb hby at_226) ?_
  show Steps p.tables e below (T0.setTop (mkF m 227 #[.val (.long j0), .second, .val (.long j2), .second, .val (.int i4), .val (.int i5), .val (.long j6), .second, .val (.long j8), .second, .val (.long j10), .second, .val (.long j12), .second, .val (.long j14), .second, .val (.long j16), .second, .val (.long j18), .second, .val (.long j20), .second, .val (.int (1 : Int32)), .val (.long (j20 * (16 : Int64))), .second, .unset] [(.long (0 : Int64)), (.long ((j12 - (1 : Int64)) % (j20 * (16 : Int64))))])) _
  refine XS.lcmp X0.here hx rfl (hb hby at_227) rfl ?_
  show Steps p.tables e below (T0.setTop (mkF m 228 #[.val (.long j0), .second, .val (.long j2), .second, .val (.int i4), .val (.int i5), .val (.long j6), .second, .val (.long j8), .second, .val (.long j10), .second, .val (.long j12), .second, .val (.long j14), .second, .val (.long j16), .second, .val (.long j18), .second, .val (.long j20), .second, .val (.int (1 : Int32)), .val (.long (j20 * (16 : Int64))), .second, .unset] [(.int (lcmpW ((j12 - (1 : Int64)) % (j20 * (16 : Int64))) (0 : Int64)))])) _
  refine XS.ifYes X0.here hx rfl (pc0 := 228) (pc' := 235) rfl (hb hby at_228) rfl ((if0 _ _).trans (feq hc228).2) (by decide) (by decide) ?_
  show Steps p.tables e below (T0.setTop (mkF m 235 #[.val (.long j0), .second, .val (.long j2), .second, .val (.int i4), .val (.int i5), .val (.long j6), .second, .val (.long j8), .second, .val (.long j10), .second, .val (.long j12), .second, .val (.long j14), .second, .val (.long j16), .second, .val (.long j18), .second, .val (.long j20), .second, .val (.int (1 : Int32)), .val (.long (j20 * (16 : Int64))), .second, .unset] [])) _
  refine XS.iconst X0.here hx rfl (hb hby at_235) ?_
  show Steps p.tables e below (T0.setTop (mkF m 236 #[.val (.long j0), .second, .val (.long j2), .second, .val (.int i4), .val (.int i5), .val (.long j6), .second, .val (.long j8), .second, .val (.long j10), .second, .val (.long j12), .second, .val (.long j14), .second, .val (.long j16), .second, .val (.long j18), .second, .val (.long j20), .second, .val (.int (1 : Int32)), .val (.long (j20 * (16 : Int64))), .second, .unset] [(.int (0 : Int32))])) _
  refine XS.istore X0.here hx rfl (hb hby at_236) rfl (l' := #[.val (.long j0), .second, .val (.long j2), .second, .val (.int i4), .val (.int i5), .val (.long j6), .second, .val (.long j8), .second, .val (.long j10), .second, .val (.long j12), .second, .val (.long j14), .second, .val (.long j16), .second, .val (.long j18), .second, .val (.long j20), .second, .val (.int (1 : Int32)), .val (.long (j20 * (16 : Int64))), .second, .val (.int (0 : Int32))]) rfl ?_
  show Steps p.tables e below (T0.setTop (mkF m 238 #[.val (.long j0), .second, .val (.long j2), .second, .val (.int i4), .val (.int i5), .val (.long j6), .second, .val (.long j8), .second, .val (.long j10), .second, .val (.long j12), .second, .val (.long j14), .second, .val (.long j16), .second, .val (.long j18), .second, .val (.long j20), .second, .val (.int (1 : Int32)), .val (.long (j20 * (16 : Int64))), .second, .val (.int (0 : Int32))] [])) _
  refine XS.iload X0.here hx rfl (hb hby at_238) rfl ?_
  show Steps p.tables e below (T0.setTop (mkF m 240 #[.val (.long j0), .second, .val (.long j2), .second, .val (.int i4), .val (.int i5), .val (.long j6), .second, .val (.long j8), .second, .val (.long j10), .second, .val (.long j12), .second, .val (.long j14), .second, .val (.long j16), .second, .val (.long j18), .second, .val (.long j20), .second, .val (.int (1 : Int32)), .val (.long (j20 * (16 : Int64))), .second, .val (.int (0 : Int32))] [(.int (0 : Int32))])) _
  refine XS.ifNo X0.here hx rfl (hb hby at_240) rfl ((if0 _ _).trans (teq (rfl : (0 : Int32) = (0 : Int32))).2) ?_
  show Steps p.tables e below (T0.setTop (mkF m 243 #[.val (.long j0), .second, .val (.long j2), .second, .val (.int i4), .val (.int i5), .val (.long j6), .second, .val (.long j8), .second, .val (.long j10), .second, .val (.long j12), .second, .val (.long j14), .second, .val (.long j16), .second, .val (.long j18), .second, .val (.long j20), .second, .val (.int (1 : Int32)), .val (.long (j20 * (16 : Int64))), .second, .val (.int (0 : Int32))] [])) _
  refine XS.iconst X0.here hx rfl (hb hby at_243) ?_
  show Steps p.tables e below (T0.setTop (mkF m 244 #[.val (.long j0), .second, .val (.long j2), .second, .val (.int i4), .val (.int i5), .val (.long j6), .second, .val (.long j8), .second, .val (.long j10), .second, .val (.long j12), .second, .val (.long j14), .second, .val (.long j16), .second, .val (.long j18), .second, .val (.long j20), .second, .val (.int (1 : Int32)), .val (.long (j20 * (16 : Int64))), .second, .val (.int (0 : Int32))] [(.int (1 : Int32))])) _
  refine XS.goto X0.here hx rfl (pc0 := 244) (pc' := 248) rfl (hb hby at_244) (by decide) (by decide) ?_
  exact kt
theorem own_p16 (x : Int32) : 1 ≤ ((1 : Int64) <<< (((4 : Int32) * (x &&& (15 : Int32))) &&& 0x3f).toInt64).toInt ∧ ((1 : Int64) <<< (((4 : Int32) * (x &&& (15 : Int32))) &&& 0x3f).toInt64).toInt ≤ 1152921504606846976 := by
  have hm : (x &&& (15 : Int32)).toInt = x.toInt % 16 := c_mask x 15 4 (by decide) (by decide)
  generalize (x &&& (15 : Int32)) = j at *
  have hj : j = Int32.ofNat j.toInt.toNat := by
    apply Int32.toInt_inj.mp
    rw [Int32.toInt_ofNat_of_lt (by omega)]
    omega
  have key : ∀ k : Fin 16, 1 ≤ ((1 : Int64) <<< (((4 : Int32) * (Int32.ofNat k.val)) &&& 0x3f).toInt64).toInt ∧ ((1 : Int64) <<< (((4 : Int32) * (Int32.ofNat k.val)) &&& 0x3f).toInt64).toInt ≤ 1152921504606846976 := by decide +kernel
  have h := key ⟨j.toInt.toNat, by omega⟩
  rw [← hj] at h
  exact h
theorem own_emod {x y : Int64} (hx : 0 ≤ x.toInt) : (x % y).toInt = x.toInt % y.toInt := by rw [Int64.toInt_mod, Int.tmod_eq_emod_of_nonneg hx]
theorem own_first (A p : Int64) (hA : 0 ≤ A.toInt) (hp : 1 ≤ p.toInt) : 1 ≤ (own_lmax (1 : Int64) (((999999999999999999 : Int64) - (1 : Int64)) / p)).toInt ∧ 1 ≤ (((A % (own_lmax (1 : Int64) (((999999999999999999 : Int64) - (1 : Int64)) / p))) * p) + (1 : Int64)).toInt ∧ (((A % (own_lmax (1 : Int64) (((999999999999999999 : Int64) - (1 : Int64)) / p))) * p) + (1 : Int64)).toInt ≤ 999999999999999998 := by
  have k1 : (1 : Int64).toInt = 1 := by decide
  have kM : ((999999999999999999 : Int64) - (1 : Int64)).toInt = 999999999999999998 := by decide
  have hq : (((999999999999999999 : Int64) - (1 : Int64)) / p).toInt = 999999999999999998 / p.toInt := by
    have h := (c_ldiv ((999999999999999999 : Int64) - (1 : Int64)) p p.toInt rfl (fun q => by rw [q] at hp; exact absurd hp (by decide))).1 (by rw [kM]; decide)
    rw [h, kM]
  have hb : (own_lmax (1 : Int64) (((999999999999999999 : Int64) - (1 : Int64)) / p)).toInt = if 1 < 999999999999999998 / p.toInt then 999999999999999998 / p.toInt else 1 := by
    simp only [own_lmax, lw_lt, Int64.lt_iff_toInt_lt, k1, hq]
    split <;> first | exact hq | exact k1
  generalize (own_lmax (1 : Int64) (((999999999999999999 : Int64) - (1 : Int64)) / p)) = bd at *
  have hm := own_emod (y := bd) hA
  generalize A % bd = t at *
  have hlow : 0 ≤ t.toInt * p.toInt ∧ t.toInt * p.toInt ≤ 999999999999999997 ∧ 1 ≤ bd.toInt := by
    by_cases c : 1 < 999999999999999998 / p.toInt
    · rw [if_pos c] at hb
      have q1 := Int.emod_nonneg A.toInt (show bd.toInt ≠ 0 by omega)
      have q2 := Int.emod_lt_of_pos A.toInt (show 0 < bd.toInt by omega)
      have q3 : (999999999999999998 / p.toInt) * p.toInt ≤ 999999999999999998 := Int.ediv_mul_le _ (by omega)
      have q4 : t.toInt * p.toInt ≤ (999999999999999998 / p.toInt - 1) * p.toInt := Int.mul_le_mul_of_nonneg_right (by omega) (by omega)
      rw [Int.sub_mul, Int.one_mul] at q4
      have q5 : 0 ≤ t.toInt * p.toInt := Int.mul_nonneg (by omega) (by omega)
      refine ⟨q5, ?_, by omega⟩
      generalize (999999999999999998 / p.toInt) * p.toInt = W at *
      generalize t.toInt * p.toInt = V at *
      omega
    · rw [if_neg c] at hb
      rw [hb, Int.emod_one] at hm
      rw [hm, Int.zero_mul]
      exact ⟨by decide, by decide, by omega⟩
  have e1 := c_lmul t p
  have r1 := rng64 (t * p)
  have e2 := c_ladd (t * p) 1
  have r2 := rng64 (t * p + 1)
  generalize t.toInt * p.toInt = V at *
  omega
theorem own_span {fs : Int64} (h1 : 1 ≤ fs.toInt) (h2 : fs.toInt ≤ 999999999999999998) : ((999999999999999999 : Int64) - fs).toInt = 999999999999999999 - fs.toInt := by
  have k : (999999999999999999 : Int64).toInt = 999999999999999999 := by decide
  have e1 := c_lsub 999999999999999999 fs
  have r1 := rng64 (999999999999999999 - fs)
  omega
theorem own_room {fs E : Int64} (h1 : 1 ≤ fs.toInt) (h2 : fs.toInt ≤ 999999999999999998) (h3 : 0 ≤ E.toInt) (h4 : E.toInt < 999999999999999999 - fs.toInt) : (((fs + E) - fs) + (1 : Int64)).toInt = E.toInt + 1 := by
  have k1 : (1 : Int64).toInt = 1 := by decide
  have e1 := c_ladd fs E
  have r1 := rng64 (fs + E)
  have e2 := c_lsub (fs + E) fs
  have r2 := rng64 (fs + E - fs)
  have e3 := c_ladd (fs + E - fs) 1
  have r3 := rng64 (fs + E - fs + 1)
  omega
theorem own_clamp {sp d : Int64} (h : 1 ≤ sp.toInt) : 0 ≤ (own_lmax (0 : Int64) (own_lmin (sp - (1 : Int64)) d)).toInt ∧ (own_lmax (0 : Int64) (own_lmin (sp - (1 : Int64)) d)).toInt < sp.toInt := by
  have k0 : (0 : Int64).toInt = 0 := by decide
  have k1 : (1 : Int64).toInt = 1 := by decide
  have e1 := c_lsub sp 1
  have r1 := rng64 (sp - 1)
  have r2 := rng64 sp
  simp only [own_lmax, own_lmin, lw_lt, lw_gt, Int64.lt_iff_toInt_lt]
  repeat' split
  all_goals omega
def own_fin (a s r : Int64) : Prop := (∃ i : Nat, i ≤ 14 ∧ r.toInt = ((16 ^ i : Nat) : Int)) ∧ r.toInt ≤ s.toInt ∧ (a.toInt - 1) % r.toInt = 0 ∧ (r.toInt * 16 ≤ s.toInt → (a.toInt - 1) % (r.toInt * 16) ≠ 0)
theorem own_lb_fin (a s : Int64) (ha : 1 ≤ a.toInt) (hs2 : s.toInt < 1000000000000000000) : ∀ (k i : Nat) (B : Int64), i + k = 15 → B.toInt = ((16 ^ i : Nat) : Int) → B.toInt ≤ s.toInt → (a.toInt - 1) % B.toInt = 0 → own_fin a s (own_lb k a s B) := by
  intro k
  induction k with
  | zero =>
    intro i B hi hB hs hm
    obtain rfl : i = 15 := by omega
    rw [own_big] at hB
    omega
  | succ k ih =>
    intro i B hi hB hs hm
    have hi14 : i ≤ 14 := by omega
    have hB16 := own_mul16 hi14 hB
    obtain ⟨p1, p2⟩ := own_pw hi14
    have hBB : (B * (16 : Int64)).toInt = B.toInt * 16 := by rw [hB16, hB, Nat.pow_succ]; omega
    have hd := own_d16 (s := s) (by omega)
    by_cases hc19 : (0 : Int32) < (lcmpW B (s / (16 : Int64)))
    · rw [own_lbs, if_pos hc19]
      rw [lw_gt, Int64.lt_iff_toInt_lt, hd] at hc19
      exact ⟨⟨i, hi14, hB⟩, hs, hm, fun q => by omega⟩
    · rw [own_lbs, if_neg hc19]
      rw [lw_gt, Int64.lt_iff_toInt_lt, hd] at hc19
      by_cases hc34 : (lcmpW ((a - (1 : Int64)) % (B * (16 : Int64))) (0 : Int64)) = (0 : Int32)
      · rw [if_pos hc34]
        rw [lw_eq, ← Int64.toInt_inj, own_mod ha, show (0 : Int64).toInt = 0 from by decide] at hc34
        exact ih (i + 1) (B * (16 : Int64)) (by omega) hB16 (by omega) hc34
      · rw [if_neg hc34]
        rw [lw_eq, ← Int64.toInt_inj, own_mod ha, show (0 : Int64).toInt = 0 from by decide, hBB] at hc34
        exact ⟨⟨i, hi14, hB⟩, hs, hm, fun _ => hc34⟩
theorem own_r {r : Int64} (h : ∃ i : Nat, i ≤ 14 ∧ r.toInt = ((16 ^ i : Nat) : Int)) : (0 : Int32) < (lcmpW r (0 : Int64)) ∧ (lcmpW (r &&& (r - (1 : Int64))) (0 : Int64)) = (0 : Int32) ∧ ¬ ((lcmpW (r &&& (1229782938247303441 : Int64)) (0 : Int64)) = (0 : Int32)) := by
  obtain ⟨i, hi, hr⟩ := h
  have key : ∀ k : Fin 15, (Int64.ofNat (16 ^ k.val)).toInt = ((16 ^ k.val : Nat) : Int) ∧ (0 : Int32) < (lcmpW (Int64.ofNat (16 ^ k.val)) (0 : Int64)) ∧ (lcmpW ((Int64.ofNat (16 ^ k.val)) &&& ((Int64.ofNat (16 ^ k.val)) - (1 : Int64))) (0 : Int64)) = (0 : Int32) ∧ ¬ ((lcmpW ((Int64.ofNat (16 ^ k.val)) &&& (1229782938247303441 : Int64)) (0 : Int64)) = (0 : Int32)) := by decide +kernel
  obtain ⟨h1, h2⟩ := key ⟨i, by omega⟩
  obtain rfl : r = Int64.ofNat (16 ^ i) := Int64.toInt_inj.mp (hr.trans h1.symm)
  exact h2
set_option maxRecDepth 65536 in
set_option maxHeartbeats 40000000 in
theorem sgA {p : Program} {l : Launch} {e : Env} {s : State} {m : MethodId} {args : Array Value} {below : List Frame} {meth : Method} {c : Code} {T0 : State} {locs : List Loc} {Z : State} {a0 : Array Value} {h0 : Heap} {n0 : Nat} (j0 j2 : Int64) (i4 i5 : Int32)
    (X0 : Stand p l e room_1 s m args below meth c T0 locs 0 0) (hx : p.tables.exec = Jvm.exec) (hZ : Z.Warmed39 s.vm) (hw : ∀ d ∈ tables_1, d.before a0 Z = true) (hby : c.code = code) (hml : c.maxLocals = 26) (hown : s.vm.findClass "com/example/tab30/tab30/book/SegmentLargestBlockPinLaw" = some m.cls) (e0 : T0.heap = h0) (Z0 : n0 ≤ h0.size) (N0 : Fr n0 locs) :
    ∃ (T' : State) (h' : Heap) (locs' : List Loc) (pw bd fs sp : Int64), Stand p l e room_1 s m args below meth c T' locs' 0 0 ∧ T'.heap = h' ∧ Fr n0 locs' ∧ Keep h0 h' [] ∧ (1 ≤ fs.toInt ∧ fs.toInt ≤ 999999999999999998 ∧ sp.toInt = 999999999999999999 - fs.toInt) ∧
      ∀ target, Steps p.tables e below (T'.setTop (mkF m 51 #[.val (.long j0), .second, .val (.long j2), .second, .val (.int i4), .val (.int i5), .val (.long (999999999999999999 : Int64)), .second, .val (.long pw), .second, .val (.long bd), .second, .val (.long fs), .second, .val (.long sp), .second, .unset, .unset, .unset, .unset, .unset, .unset, .unset, .unset, .unset, .unset] [])) target → Steps p.tables e below (T0.setTop (mkF m 0 #[.val (.long j0), .second, .val (.long j2), .second, .val (.int i4), .val (.int i5), .unset, .unset, .unset, .unset, .unset, .unset, .unset, .unset, .unset, .unset, .unset, .unset, .unset, .unset, .unset, .unset, .unset, .unset, .unset, .unset] [])) target := by
  have hP := own_p16 i4
  obtain ⟨T1, h1, l1, X1, e1, N1, K1, st1⟩ := sgA1 j0 j2 i4 i5 X0 hx hZ hw hby hml hown e0 Z0 N0
  generalize ((1 : Int64) <<< (((4 : Int32) * (i4 &&& (15 : Int32))) &&& 0x3f).toInt64) = pw at *
  have hnz : ¬ pw = (0 : Int64) := fun q => by rw [q] at hP; exact absurd hP (by decide)
  obtain ⟨T2, h2, l2, X2, e2, N2, K2, st2⟩ := sgA2 j0 j2 i4 i5 (999999999999999999 : Int64) pw X1 hx hZ hw hby hml hown e1 (Nat.le_trans Z0 K1.1) N1 hnz
  have ha : (j0 &&& (9223372036854775807 : Int64)).toInt = j0.toInt % 9223372036854775808 := c_maskL j0 9223372036854775807 63 (by decide) (by decide)
  have hf := own_first (j0 &&& (9223372036854775807 : Int64)) pw (by omega) hP.1
  have hnz2 : ¬ (own_lmax (1 : Int64) (((999999999999999999 : Int64) - (1 : Int64)) / pw)) = (0 : Int64) := fun q => by rw [q] at hf; exact absurd hf.1 (by decide)
  obtain ⟨T3, h3, l3, X3, e3, N3, K3, st3⟩ := sgA3 j0 j2 i4 i5 (999999999999999999 : Int64) pw (own_lmax (1 : Int64) (((999999999999999999 : Int64) - (1 : Int64)) / pw)) X2 hx hZ hw hby hml hown e2 (Nat.le_trans Z0 (Nat.le_trans K1.1 K2.1)) N2 hnz2
  exact ⟨T3, h3, l3, pw, _, _, _, X3, e3, N3, (K1.trans K2 (fun _ q => nomatch q)).trans K3 (fun _ q => nomatch q), ⟨hf.2.1, hf.2.2, own_span hf.2.1 hf.2.2⟩, fun target h => st1 target (st2 target (st3 target h))⟩
set_option maxRecDepth 65536 in
set_option maxHeartbeats 40000000 in
theorem sgB {p : Program} {l : Launch} {e : Env} {s : State} {m : MethodId} {args : Array Value} {below : List Frame} {meth : Method} {c : Code} {T0 : State} {locs : List Loc} {Z : State} {a0 : Array Value} {h0 : Heap} {n0 : Nat} (j0 j2 : Int64) (i4 i5 : Int32) (pw bd fs sp : Int64)
    (X0 : Stand p l e room_1 s m args below meth c T0 locs 0 0) (hx : p.tables.exec = Jvm.exec) (hZ : Z.Warmed39 s.vm) (hw : ∀ d ∈ tables_1, d.before a0 Z = true) (hby : c.code = code) (hml : c.maxLocals = 26) (hown : s.vm.findClass "com/example/tab30/tab30/book/SegmentLargestBlockPinLaw" = some m.cls) (e0 : T0.heap = h0) (Z0 : n0 ≤ h0.size) (N0 : Fr n0 locs) (hfs : 1 ≤ fs.toInt ∧ fs.toInt ≤ 999999999999999998 ∧ sp.toInt = 999999999999999999 - fs.toInt) :
    ∃ (T' : State) (h' : Heap) (locs' : List Loc) (la rm : Int64), Stand p l e room_1 s m args below meth c T' locs' 0 0 ∧ T'.heap = h' ∧ Fr n0 locs' ∧ Keep h0 h' [] ∧ (rm = ((la - fs) + (1 : Int64)) ∧ 1 ≤ rm.toInt ∧ rm.toInt < 1000000000000000000) ∧
      ∀ target, Steps p.tables e below (T'.setTop (mkF m 126 #[.val (.long j0), .second, .val (.long j2), .second, .val (.int i4), .val (.int i5), .val (.long (999999999999999999 : Int64)), .second, .val (.long pw), .second, .val (.long bd), .second, .val (.long fs), .second, .val (.long sp), .second, .val (.long la), .second, .val (.long rm), .second, .unset, .unset, .unset, .unset, .unset, .unset] [])) target → Steps p.tables e below (T0.setTop (mkF m 51 #[.val (.long j0), .second, .val (.long j2), .second, .val (.int i4), .val (.int i5), .val (.long (999999999999999999 : Int64)), .second, .val (.long pw), .second, .val (.long bd), .second, .val (.long fs), .second, .val (.long sp), .second, .unset, .unset, .unset, .unset, .unset, .unset, .unset, .unset, .unset, .unset] [])) target := by
  obtain ⟨f1, f2, f3⟩ := hfs
  by_cases hc : (i5 &&& (1 : Int32)) = (0 : Int32)
  · have hnz : ¬ sp = (0 : Int64) := fun q => by rw [q, show (0 : Int64).toInt = 0 from by decide] at f3; omega
    have ha : (j2 &&& (9223372036854775807 : Int64)).toInt = j2.toInt % 9223372036854775808 := c_maskL j2 9223372036854775807 63 (by decide) (by decide)
    have hm := own_emod (x := j2 &&& (9223372036854775807 : Int64)) (y := sp) (by omega)
    have q1 := Int.emod_nonneg (j2 &&& (9223372036854775807 : Int64)).toInt (show sp.toInt ≠ 0 by omega)
    have q2 := Int.emod_lt_of_pos (j2 &&& (9223372036854775807 : Int64)).toInt (show 0 < sp.toInt by omega)
    have hr := own_room (E := (j2 &&& (9223372036854775807 : Int64)) % sp) f1 f2 (by omega) (by omega)
    obtain ⟨T1, h1, l1, X1, e1, N1, K1, st1⟩ := sgB_f j0 j2 i4 i5 (999999999999999999 : Int64) pw bd fs sp X0 hx hZ hw hby hml hown e0 Z0 N0 hc hnz
    exact ⟨T1, h1, l1, _, _, X1, e1, N1, K1, ⟨rfl, by omega, by omega⟩, st1⟩
  · obtain ⟨T1, h1, l1, X1, e1, N1, K1, st1⟩ := sgB_t j0 j2 i4 i5 (999999999999999999 : Int64) pw bd fs sp X0 hx hZ hw hby hml hown e0 Z0 N0 hc
    obtain ⟨q1, q2⟩ := own_clamp (sp := sp) (d := ((((1 : Int64) <<< (((4 : Int32) * (((i5.toUInt32 >>> ((1 : Int32) &&& 31).toUInt32).toInt32) &&& (15 : Int32))) &&& 0x3f).toInt64) + ((((i5.toUInt32 >>> ((5 : Int32) &&& 31).toUInt32).toInt32) &&& (3 : Int32)).toInt64)) - (2 : Int64))) (by omega)
    have hr := own_room (E := (own_lmax (0 : Int64) (own_lmin (sp - (1 : Int64)) ((((1 : Int64) <<< (((4 : Int32) * (((i5.toUInt32 >>> ((1 : Int32) &&& 31).toUInt32).toInt32) &&& (15 : Int32))) &&& 0x3f).toInt64) + ((((i5.toUInt32 >>> ((5 : Int32) &&& 31).toUInt32).toInt32) &&& (3 : Int32)).toInt64)) - (2 : Int64))))) f1 f2 q1 (by omega)
    exact ⟨T1, h1, l1, _, _, X1, e1, N1, K1, ⟨rfl, by omega, by omega⟩, st1⟩
theorem pn_0 : plainName "com/example/tab30/tab30/book/SegmentLargestBlockPinLaw" = true := by first | (simp [plainName, overriddenIn]; done) | decide +kernel
theorem ef_0 (m : MethodId) (x0 : Int64) (x1 : Int64) (x2 : Int32) (x3 : Int32) : entryFrame m #[(.long x0), (.long x1), (.int x2), (.int x3)] maxLocals = mkF m 0 #[.val (.long x0), .second, .val (.long x1), .second, .val (.int x2), .val (.int x3), .unset, .unset, .unset, .unset, .unset, .unset, .unset, .unset, .unset, .unset, .unset, .unset, .unset, .unset, .unset, .unset, .unset, .unset, .unset, .unset] [] := by first | (simp [entryFrame, mkF, argsToLocals, Value.category, maxLocals]; done) | rfl
def Q0 (Z : State) (q1 : Int64) (q2 : Int64) (p3 : Int32) (p4 : Int32) (h0 : Heap) (n0 : Nat) (v : Option Value) (h : Heap) (L : List Loc) : Prop := v = some (.int (1 : Int32)) ∧ Fr n0 L
set_option maxRecDepth 65536 in
set_option maxHeartbeats 40000000 in
theorem rm0 (l : Launch) (Z : State) (a0 : Array Value) (hw : ∀ d ∈ tables_1, d.before a0 Z = true) (ws : List Jvm.Cond) (q1 : Int64) (q2 : Int64) (p3 : Int32) (p4 : Int32) (h0 : Heap) (n0 : Nat) (Z0 : n0 ≤ h0.size) :
    MetFree l x (head1 (Jvm.Cond.code x code maxLocals ret :: ws) room_1) (fun a U => a = #[(.long q1), (.long q2), (.int p3), (.int p4)] ∧ Z.Warmed39 U.vm ∧ U.heap = h0) (fun _ _ _ _ _ => True) (fun _ U o U' => ∃ v L, o = .returned v ∧ Q0 Z q1 q2 p3 p4 h0 n0 v U'.heap L ∧ FrameEnd U o U' L room_1.cells room_1.slots) := by
  refine MetFree.of_bodySF (plainFor_of_name pn_0) hisR ?_
  intro p e s m args below meth c s₁ Bd hml0 hP hK
  obtain ⟨rfl, hZ, hh⟩ := hP
  have hx := Bd.exec
  have hby := Bd.bytes
  have hml : c.maxLocals = 26 := hml0
  have hown : s.vm.findClass "com/example/tab30/tab30/book/SegmentLargestBlockPinLaw" = some m.cls := findClass_of_methodNamed Bd.named
  have hnm := (name_of_methodNamed Bd.named Bd.method).1
  have X0 : Stand p l e room_1 s m #[(.long q1), (.long q2), (.int p3), (.int p4)] below meth c s₁ [] 0 0 := Stand.of_body Bd
  have e0 : s₁.heap = h0 := by rw [← hh, Bd.state]; rfl
  have N0 := Fr.nil n0
  have pre0 : ∀ t, Steps p.tables e below (s₁.setTop (mkF m 0 #[.val (.long q1), .second, .val (.long q2), .second, .val (.int p3), .val (.int p4), .unset, .unset, .unset, .unset, .unset, .unset, .unset, .unset, .unset, .unset, .unset, .unset, .unset, .unset, .unset, .unset, .unset, .unset, .unset, .unset] [])) t → Steps p.tables e below (s₁.setTop (entryFrame m #[(.long q1), (.long q2), (.int p3), (.int p4)] maxLocals)) t := fun t k => castTop (ef_0 m q1 q2 p3 p4) k
  obtain ⟨TA, hA, LA, pw, bd, fs, sp, XA, eA, NA, KA, hfs, stA⟩ := sgA q1 q2 p3 p4 X0 hx hZ hw hby hml hown e0 Z0 N0
  have ZA := Nat.le_trans Z0 KA.1
  obtain ⟨TB, hB, LB, la, rm, XB, eB, NB, KB, hrm, stB⟩ := sgB q1 q2 p3 p4 pw bd fs sp XA hx hZ hw hby hml hown eA ZA NA hfs
  obtain ⟨hr0, hr1, hr2⟩ := hrm
  have ZB := Nat.le_trans ZA KB.1
  obtain ⟨TC, hC, LC, XC, eC, NC, KC, stC⟩ := sgC1 q1 q2 p3 p4 (999999999999999999 : Int64) pw bd fs sp la rm XB hx hZ hw hby hml hown eB ZB NB (by rw [← hr0]; exact hr1) (by rw [← hr0]; exact hr2)
  rw [← hr0] at stC
  have hfin := own_lb_fin fs rm hfs.1 hr2 15 0 (1 : Int64) (by decide) (by decide) (by rw [show (1 : Int64).toInt = 1 from by decide]; exact hr1) (by rw [show (1 : Int64).toInt = 1 from by decide]; exact Int.emod_one _)
  generalize own_lb 15 fs rm (1 : Int64) = rr at *
  obtain ⟨g1, g2, g3, g4⟩ := hfin
  obtain ⟨c1, c2, c3⟩ := own_r g1
  obtain ⟨i, hi14, hri⟩ := g1
  have hp := own_pw hi14
  have h16 := own_mul16 hi14 hri
  have h16' : (rr * (16 : Int64)).toInt = rr.toInt * 16 := by rw [h16, hri, Nat.pow_succ]; omega
  have k0 : (0 : Int64).toInt = 0 := by decide
  have c4 : ¬ (0 : Int32) < (lcmpW rr rm) := by rw [lw_gt, Int64.lt_iff_toInt_lt]; omega
  have c5 : ¬ rr = (0 : Int64) := fun q => by rw [q, k0] at hri; omega
  have c6 : (lcmpW ((fs - (1 : Int64)) % rr) (0 : Int64)) = (0 : Int32) := by rw [lw_eq, ← Int64.toInt_inj, own_mod hfs.1, k0]; exact g3
  have c7 : ¬ (rr * (16 : Int64)) = (0 : Int64) := fun q => by rw [q, k0] at h16'; omega
  have ZC := Nat.le_trans ZB KC.1
  obtain ⟨TE, hE, LE, Ls, XE, eE, NE, KE, stE⟩ : ∃ (T' : State) (h' : Heap) (locs' : List Loc) (Ls : Array Slot), Stand p l e room_1 s m _ below meth c T' locs' 0 0 ∧ T'.heap = h' ∧ Fr n0 locs' ∧ Keep hC h' [] ∧ ∀ target, Steps p.tables e below (T'.setTop (mkF m 248 Ls [(.int (1 : Int32))])) target → Steps p.tables e below (TC.setTop (mkF m 135 #[.val (.long q1), .second, .val (.long q2), .second, .val (.int p3), .val (.int p4), .val (.long (999999999999999999 : Int64)), .second, .val (.long pw), .second, .val (.long bd), .second, .val (.long fs), .second, .val (.long sp), .second, .val (.long la), .second, .val (.long rm), .second, .val (.long rr), .second, .unset, .unset, .unset, .unset] [])) target := by
    by_cases hc : (0 : Int32) < (lcmpW (rr * (16 : Int64)) rm)
    · exact sgD_tf q1 q2 p3 p4 (999999999999999999 : Int64) pw bd fs sp la rm rr XC hx hZ hw hby hml hown eC ZC NC c1 c2 c3 (by decide) c4 c5 c6 hc
    · have c8 : ¬ (lcmpW ((fs - (1 : Int64)) % (rr * (16 : Int64))) (0 : Int64)) = (0 : Int32) := by
        rw [lw_eq, ← Int64.toInt_inj, own_mod hfs.1, k0, h16']
        rw [lw_gt, Int64.lt_iff_toInt_lt] at hc
        exact g4 (by omega)
      exact sgD_ftf q1 q2 p3 p4 (999999999999999999 : Int64) pw bd fs sp la rm rr XC hx hZ hw hby hml hown eC ZC NC c1 c2 c3 (by decide) c4 c5 c6 hc c7 c8
  obtain ⟨fs', hr, hrun, hended, hW, hsame⟩ := XE.leave (v := some (.int (1 : Int32))) (fun h => by rw [Bd.returns] at h; cases h)
  refine ⟨_, _, pre0 _ (stA _ (stB _ (stC _ (stE _ ?_)))), hrun, hended, _, _, rfl, ⟨rfl, NE⟩, ⟨_, rfl⟩, hW, hsame.mono (by decide) (by decide)⟩
  exact retN XE hx (t := .boolean) Bd.returns (by simp) (hb hby at_248) hr
set_option maxRecDepth 65536 in
set_option maxHeartbeats 40000000 in
theorem comes_1 {Post : Tables → Env → Array Value → State → Outcome → State → Prop} (hpost : ∀ tb e args s v u, (limb_1_1.after args s (.returned v) u = true ∧ limb_1_2.after args s (.returned v) u = true ∧ True) → FrameEnd s (.returned v) u (Jvm.fieldLocs frame_1_writes args s ++ Jvm.arrayLocs frame_1_arrays args s ++ Jvm.staticLocs frame_1_statics s) 0 0 → Post tb e args s (.returned v) u) :
    ArmFor flags0 classFile x code maxLocals ret World_1 tables_1 room_1 Calls_1 rest_1 Pre_1 Post := by
  intro l hfl _ _ p e ha hc hk s m args below hf hA hF happ hP
  obtain ⟨hcalls, hrest, hpre⟩ := hP
  obtain ⟨-, -, -, hnamed, -, -, -, hat⟩ := (Spec.applies_iff hf).mp happ
  obtain ⟨hg, hn⟩ := and_e (Cond.before_iff.mp (show (Jvm.Cond.and given_1 narrow_1).before args s = true from hpre))
  obtain ⟨g7, g8⟩ := and_e hg
  obtain ⟨g9, g10⟩ := and_e g8
  obtain ⟨g11, g12⟩ := and_e g10
  obtain ⟨g13, g14⟩ := and_e g12
  obtain ⟨w0, w1, w2, w3, rfl⟩ : ∃ w0 w1 w2 w3 : Value, args = #[w0, w1, w2, w3] := by
    have hs : args.size = 4 := by simpa [Cond.value, given_1] using g7
    obtain ⟨L⟩ := args
    match L, hs with
    | [w0, w1, w2, w3], _ => exact ⟨w0, w1, w2, w3, rfl⟩
  have hw := fun d (hd : d ∈ tables_1) => atoms_spec (ws := Jvm.Cond.code x code maxLocals ret :: tables_1) hat d (List.mem_cons_of_mem _ hd)
  have hfit : Fit s := fun {y c} hc i hi => by
    obtain ⟨ha, rfl⟩ := Array.getElem?_eq_some_iff.mp hc
    have q := List.all_eq_true.mp ((Array.all_eq_true_iff_forall_mem.mp hF) _ (Array.getElem_mem ha)) i (List.mem_range.mpr hi)
    simpa [Array.getElem?_eq_getElem hi] using q
  obtain ⟨i0, ei0⟩ := isL_v g9
  obtain rfl : w0 = (.long i0) := Option.some.inj ei0
  obtain ⟨i1, ei1⟩ := isL_v g11
  obtain rfl : w1 = (.long i1) := Option.some.inj ei1
  obtain ⟨i2, ei2⟩ := is_v g13
  obtain rfl : w2 = (.int i2) := Option.some.inj ei2
  obtain ⟨i3, ei3⟩ := is_v g14
  obtain rfl : w3 = (.int i3) := Option.some.inj ei3
  obtain ⟨n, o, h1, h2, h3, _, L, rfl, ⟨rfl, N⟩, hq⟩ := rm0 l s _ hw tables_1 i0 i1 i2 i3 s.heap s.heap.size (Nat.le_refl _) p e ha hc hk s m _ below hf ((Spec.applies_iff_loose hf).mp happ).1 ⟨rfl, State.Warmed39.refl s, rfl⟩ trivial
  refine ⟨n, _, h1, h2, h3, hpost _ _ _ _ _ _ ⟨Cond.after_iff.mpr rfl, Cond.after_iff.mpr (eq_i res_at (Term.int_eval (1)) rfl), trivial⟩ ⟨hq.1, hq.2.1, (hq.2.2.sift fun y hy => Or.inr (N y hy)).mono (by decide) (by decide)⟩⟩
theorem main_1_1 : Claimed_1_1 := comes_1 fun _ _ _ _ _ _ h hF => ⟨h.1, hF⟩
theorem main_1_2 : Claimed_1_2 := comes_1 fun _ _ _ _ _ _ h hF => ⟨h.2.1, hF⟩
end Jvm.Pilot.@@N@@
namespace Jvm.Pilot.@@N@@
open Jvm Jvm.ClassFile Sem Op Lib Jvm.Free Jvm.Stand Jvm.Pilot.@@N@@.Jvm.D
/-! MADE BY PROGRAM (witnessworld.py) out of the Statement's table words and the real class files: 10 classes; the members and pool entries that the words name. The judged class is class 1, her method 1. -/
namespace start1
open Jvm.ClassFile
def u (s : String) : CpInfo := .utf8 (stringToUtf16 s)
/-- a pool by its gaps: so many unusable entries, then the entry; so many at the end -/
def gap : Nat → List CpInfo → List CpInfo
  | 0, r => r
  | n + 1, r => .unusable :: gap n r
def poolList (es : List (Nat × CpInfo)) (last : Nat) : List CpInfo := es.foldr (fun e r => gap e.1 (e.2 :: r)) (gap last [])
def pool (es : List (Nat × CpInfo)) (last : Nat) : Array CpInfo := ⟨poolList es last⟩
def fileOf (pool : Array CpInfo) (this : Nat) (attrs : Array Attribute := #[]) (ms : Array MethodInfo := #[]) (fl : Nat := 33) (sup : Nat := 0) (ifs : Array Nat := #[]) (fds : Array FieldInfo := #[]) : ClassFile where
  minorVersion := 0
  majorVersion := 65
  constantPool := pool
  accessFlags := fl
  thisClass := this
  superClass := sup
  interfaces := ifs
  fields := fds
  methods := ms
  attributes := attrs
def plain (name : String) (sup : Option ClassId) : Class where
  name := name
  kind := .ordinary
  loader := none
  accessFlags := 33
  super := sup
  interfaces := #[]
  cf := none
  fields := #[]
  methods := #[]
  instanceTypes := #[]
  staticTypes := #[]
  resolved := #[]
  callSites := []
  init := .initialized
  statics := none
  mirror := none

def pool0 : Array CpInfo := pool [(5, u "<init>"), (0, u "()V"), (1, .class_ 10), (1, u "java/lang/Object")] 113

def k0m0 : Method := { name := "<init>", desc := "()V", sig := { parameters := [], returnType := none }, accessFlags := 1, code := none }
/-- java/lang/Object -/
def k0 : Class := { plain "java/lang/Object" none with
  accessFlags := 33
  interfaces := #[]
  cf := some (fileOf pool0 8 #[] #[{ accessFlags := 1, nameIndex := 5, descriptorIndex := 6, attributes := #[] }] 33 0 #[] #[])
  fields := #[]
  methods := #[k0m0]
  instanceTypes := #[]
  staticTypes := #[]
  resolved := Array.replicate 124 none
  statics := none }

def pool1 : Array CpInfo := pool [(2, .class_ 4), (1, u "java/lang/Object"), (0, u "<init>"), (0, u "()V"), (0, .long 999999999999999999), (1, .methodref 10 11), (0, .class_ 12), (0, .nameAndType 13 14), (0, u "java/lang/Math"), (0, u "max"), (0, u "(JJ)J"), (2, .long 9223372036854775807), (1, .long 2), (1, .methodref 10 22), (0, .nameAndType 23 14), (0, u "min"), (0, .methodref 25 26), (0, .class_ 27), (0, .nameAndType 28 14), (0, u "com/example/tab30/tab30/book/Segment"), (0, u "largestBlock"), (0, .long 1229782938247303441), (1, .long 16), (1, .class_ 34), (0, u "com/example/tab30/tab30/book/SegmentLargestBlockPinLaw"), (2, u "law"), (0, u "(JJII)Z")] 3

def k1m0 : Method := { name := "<init>", desc := "()V", sig := { parameters := [], returnType := none }, accessFlags := 1, code := none }
def k1c1 : Code := { maxStack := 8, maxLocals := 26, code := code, exceptionTable := #[], attributes := #[] }
def k1m1 : Method := { name := "law", desc := "(JJII)Z", sig := { parameters := [.long, .long, .int, .int], returnType := some .boolean }, accessFlags := 9, code := some k1c1 }
/-- com/example/tab30/tab30/book/SegmentLargestBlockPinLaw -/
def k1 : Class := { plain "com/example/tab30/tab30/book/SegmentLargestBlockPinLaw" (some 0) with
  accessFlags := 49
  interfaces := #[]
  cf := some (fileOf pool1 33 #[] #[{ accessFlags := 1, nameIndex := 5, descriptorIndex := 6, attributes := #[] }, { accessFlags := 9, nameIndex := 37, descriptorIndex := 38, attributes := #[] }] 49 2 #[] #[])
  fields := #[]
  methods := #[k1m0, k1m1]
  instanceTypes := #[]
  staticTypes := #[]
  resolved := Array.replicate 42 none
  statics := none }

def pool2 : Array CpInfo := pool [(1, .class_ 2), (0, u "java/lang/Math"), (1, .class_ 6), (1, u "java/lang/Object"), (0, u "<init>"), (0, u "()V"), (89, .class_ 100), (1, u "java/lang/Math$RandomNumberGeneratorHolder"), (20, u "(JJ)J"), (50, u "negativeZeroFloatBits"), (0, u "J"), (2, u "negativeZeroDoubleBits"), (21, u "max"), (2, u "min"), (43, u "$assertionsDisabled"), (0, u "Z"), (91, u "twoToTheDoubleScaleDown"), (0, u "D"), (4, u "twoToTheDoubleScaleUp"), (9, u "E"), (3, u "PI"), (2, u "TAU"), (2, u "DEGREES_TO_RADIANS"), (0, u "RADIANS_TO_DEGREES")] 94

def k2m0 : Method := { name := "<init>", desc := "()V", sig := { parameters := [], returnType := none }, accessFlags := 2, code := none }
def k2c1 : Code := { maxStack := 4, maxLocals := 4, code := jdk_29_method_66_code, exceptionTable := #[], attributes := #[] }
def k2m1 : Method := { name := "max", desc := "(JJ)J", sig := { parameters := [.long, .long], returnType := some .long }, accessFlags := 9, code := some k2c1 }
def k2c2 : Code := { maxStack := 4, maxLocals := 4, code := jdk_29_method_70_code, exceptionTable := #[], attributes := #[] }
def k2m2 : Method := { name := "min", desc := "(JJ)J", sig := { parameters := [.long, .long], returnType := some .long }, accessFlags := 9, code := some k2c2 }
/-- java/lang/Math -/
def k2 : Class := { plain "java/lang/Math" (some 0) with
  accessFlags := 49
  interfaces := #[]
  cf := some (fileOf pool2 1 #[.nestMembers #[98]] #[{ accessFlags := 2, nameIndex := 7, descriptorIndex := 8, attributes := #[] }, { accessFlags := 9, nameIndex := 198, descriptorIndex := 121, attributes := #[] }, { accessFlags := 9, nameIndex := 201, descriptorIndex := 121, attributes := #[] }] 49 4 #[] #[{ accessFlags := 25, nameIndex := 354, descriptorIndex := 339, attributes := #[] }, { accessFlags := 25, nameIndex := 358, descriptorIndex := 339, attributes := #[] }, { accessFlags := 25, nameIndex := 361, descriptorIndex := 339, attributes := #[] }, { accessFlags := 26, nameIndex := 364, descriptorIndex := 339, attributes := #[] }, { accessFlags := 26, nameIndex := 365, descriptorIndex := 339, attributes := #[] }, { accessFlags := 26, nameIndex := 172, descriptorIndex := 173, attributes := #[] }, { accessFlags := 26, nameIndex := 176, descriptorIndex := 173, attributes := #[] }, { accessFlags := 8, nameIndex := 344, descriptorIndex := 339, attributes := #[] }, { accessFlags := 8, nameIndex := 338, descriptorIndex := 339, attributes := #[] }, { accessFlags := 4120, nameIndex := 245, descriptorIndex := 246, attributes := #[] }])
  fields := #[{ name := "E", type := .double, accessFlags := 25, slot := 0, constantValue := 0 }, { name := "PI", type := .double, accessFlags := 25, slot := 1, constantValue := 0 }, { name := "TAU", type := .double, accessFlags := 25, slot := 2, constantValue := 0 }, { name := "DEGREES_TO_RADIANS", type := .double, accessFlags := 26, slot := 3, constantValue := 0 }, { name := "RADIANS_TO_DEGREES", type := .double, accessFlags := 26, slot := 4, constantValue := 0 }, { name := "negativeZeroFloatBits", type := .long, accessFlags := 26, slot := 5, constantValue := 0 }, { name := "negativeZeroDoubleBits", type := .long, accessFlags := 26, slot := 6, constantValue := 0 }, { name := "twoToTheDoubleScaleUp", type := .double, accessFlags := 8, slot := 7, constantValue := 0 }, { name := "twoToTheDoubleScaleDown", type := .double, accessFlags := 8, slot := 8, constantValue := 0 }, { name := "$assertionsDisabled", type := .boolean, accessFlags := 4120, slot := 9, constantValue := 0 }]
  methods := #[k2m0, k2m1, k2m2]
  instanceTypes := #[]
  staticTypes := #[.double, .double, .double, .double, .double, .long, .long, .double, .double, .boolean]
  resolved := Array.replicate 460 none
  statics := none }

def pool3 : Array CpInfo := pool [(2, .class_ 4), (1, u "java/lang/Object"), (3, .class_ 10), (1, u "com/example/tab30/tab30/book/Segment"), (0, u "first"), (0, u "J"), (2, u "last"), (2, u "file"), (0, u "Ljava/nio/file/Path;"), (2, u "ids"), (77, .long 16), (19, u "NAME"), (0, u "Ljava/util/regex/Pattern;"), (24, u "largestBlock"), (0, u "(JJ)J"), (16, u "MERGED"), (0, u "I"), (2, u "ONE_NAME"), (0, u "Ljava/lang/String;"), (0, u "BLOCK_NAME"), (0, u "EVENTS"), (0, u "IDS"), (2, u "MOST"), (20, .class_ 197), (0, u "com/example/tab30/tab30/book/Segment$Listing")] 20

def k3c0 : Code := { maxStack := 6, maxLocals := 8, code := prog_41_method_10_code, exceptionTable := #[], attributes := #[] }
def k3m0 : Method := { name := "largestBlock", desc := "(JJ)J", sig := { parameters := [.long, .long], returnType := some .long }, accessFlags := 8, code := some k3c0 }
/-- com/example/tab30/tab30/book/Segment -/
def k3 : Class := { plain "com/example/tab30/tab30/book/Segment" (some 0) with
  accessFlags := 48
  interfaces := #[]
  cf := some (fileOf pool3 8 #[.nestMembers #[196]] #[{ accessFlags := 8, nameIndex := 146, descriptorIndex := 147, attributes := #[] }] 48 2 #[] #[{ accessFlags := 26, nameIndex := 164, descriptorIndex := 165, attributes := #[] }, { accessFlags := 26, nameIndex := 120, descriptorIndex := 121, attributes := #[] }, { accessFlags := 26, nameIndex := 168, descriptorIndex := 169, attributes := #[] }, { accessFlags := 26, nameIndex := 170, descriptorIndex := 169, attributes := #[] }, { accessFlags := 26, nameIndex := 171, descriptorIndex := 169, attributes := #[] }, { accessFlags := 26, nameIndex := 172, descriptorIndex := 169, attributes := #[] }, { accessFlags := 26, nameIndex := 175, descriptorIndex := 12, attributes := #[] }, { accessFlags := 18, nameIndex := 11, descriptorIndex := 12, attributes := #[] }, { accessFlags := 18, nameIndex := 15, descriptorIndex := 12, attributes := #[] }, { accessFlags := 18, nameIndex := 18, descriptorIndex := 19, attributes := #[] }, { accessFlags := 18, nameIndex := 22, descriptorIndex := 19, attributes := #[] }])
  fields := #[{ name := "MERGED", type := .int, accessFlags := 26, slot := 0, constantValue := 0 }, { name := "NAME", type := (.object "java/util/regex/Pattern"), accessFlags := 26, slot := 1, constantValue := 0 }, { name := "ONE_NAME", type := (.object "java/lang/String"), accessFlags := 26, slot := 2, constantValue := 0 }, { name := "BLOCK_NAME", type := (.object "java/lang/String"), accessFlags := 26, slot := 3, constantValue := 0 }, { name := "EVENTS", type := (.object "java/lang/String"), accessFlags := 26, slot := 4, constantValue := 0 }, { name := "IDS", type := (.object "java/lang/String"), accessFlags := 26, slot := 5, constantValue := 0 }, { name := "MOST", type := .long, accessFlags := 26, slot := 6, constantValue := 0 }, { name := "first", type := .long, accessFlags := 18, slot := 0, constantValue := 0 }, { name := "last", type := .long, accessFlags := 18, slot := 1, constantValue := 0 }, { name := "file", type := (.object "java/nio/file/Path"), accessFlags := 18, slot := 2, constantValue := 0 }, { name := "ids", type := (.object "java/nio/file/Path"), accessFlags := 18, slot := 3, constantValue := 0 }]
  methods := #[k3m0]
  instanceTypes := #[.long, .long, (.object "java/nio/file/Path"), (.object "java/nio/file/Path")]
  staticTypes := #[.int, (.object "java/util/regex/Pattern"), (.object "java/lang/String"), (.object "java/lang/String"), (.object "java/lang/String"), (.object "java/lang/String"), .long]
  resolved := Array.replicate 218 none
  statics := none }

def pool4 : Array CpInfo := pool [(1, u "java/lang/Cloneable"), (0, .class_ 1), (0, u "java/lang/Object"), (0, .class_ 3)] 3

/-- java/lang/Cloneable -/
def k4 : Class := { plain "java/lang/Cloneable" (some 0) with
  accessFlags := 1537
  interfaces := #[]
  cf := some (fileOf pool4 2 #[] #[] 1537 4 #[] #[])
  fields := #[]
  methods := #[]
  instanceTypes := #[]
  staticTypes := #[]
  resolved := Array.replicate 8 none
  statics := none }

def pool5 : Array CpInfo := pool [(1, u "java/io/Serializable"), (0, .class_ 1), (0, u "java/lang/Object"), (0, .class_ 3)] 3

/-- java/io/Serializable -/
def k5 : Class := { plain "java/io/Serializable" (some 0) with
  accessFlags := 1537
  interfaces := #[]
  cf := some (fileOf pool5 2 #[] #[] 1537 4 #[] #[])
  fields := #[]
  methods := #[]
  instanceTypes := #[]
  staticTypes := #[]
  resolved := Array.replicate 8 none
  statics := none }

/-- the primitive byte -/
def k6 : Class := { plain "byte" none with kind := .primitive 'B', accessFlags := 0x411 }
/-- [B -/
def k7 : Class := { plain "[B" (some 0) with kind := .array 6 .byte, interfaces := #[4, 5], accessFlags := 1041 }

/-- the primitive int -/
def k8 : Class := { plain "int" none with kind := .primitive 'I', accessFlags := 0x411 }
/-- [I -/
def k9 : Class := { plain "[I" (some 0) with kind := .array 8 .int, interfaces := #[4, 5], accessFlags := 1041 }

def heap : Heap := #[]
def classes : Array Class := #[k0, k1, k2, k3, k4, k5, k6, k7, k8, k9]
def interned : List (Array UInt16 × Addr) := []
def slotsUsed : Nat := 0
def theMethod : MethodId := ⟨1, 1⟩
def args0 : Array Value := #[.long 3, .long 1, .int 2, .int 3]
def aboutOver (below : List Frame) : State where
  vm := { classes := classes, interned := interned.toArray }
  heap := heap
  slotsUsed := slotsUsed
  threads := #[{ frames := .invoking theMethod args0 :: below }]
def below0 : List Frame := [.native { method := ⟨0, 0⟩, args := #[] }]
def about1 : State := aboutOver below0
def p0 : Program := .bare "" "" ""
def e0 : Env := launch0.env 0 0 0
theorem w_frames : about1.frames = Frame.invoking theMethod args0 :: below0 := rfl
set_option maxRecDepth 65536 in
theorem w_args : argsFit about1.vm theMethod args0 = true := by decide +kernel
set_option maxRecDepth 65536 in
theorem w_heap : heapFits about1 = true := by decide +kernel
set_option maxRecDepth 65536 in
theorem w_runnable : about1.curStatus? = some .runnable := by decide +kernel
set_option maxRecDepth 65536 in
theorem w_alone : about1.alone = true := by decide +kernel
set_option maxRecDepth 65536 in
theorem w_named : about1.methodNamed? x = some theMethod := by decide +kernel
set_option maxRecDepth 65536 in
theorem w_hears : about1.hears theMethod below0 = true := by decide +kernel
set_option maxRecDepth 65536 in
theorem w_ripe : about1.ripe theMethod args0 below0 = true := by decide +kernel
theorem w_running : about1.status = .running := rfl
set_option maxRecDepth 65536 in
theorem w_room : about1.hasRoom e0.platform room_1 = true :=
  launch0.hasRoom_least _ room_1 (by decide +kernel) (by decide +kernel) (by decide +kernel) (by decide +kernel) (by decide +kernel) (by decide +kernel)
theorem allAtoms_all (ts : List Jvm.Cond) (a : Array Jvm.Value) (st : Jvm.State) : (allAtoms ts).before a st = ts.all (fun c => c.before a st) := by
  induction ts with
  | nil => rfl
  | cons c t ih =>
    show (Jvm.Cond.and c (allAtoms t)).before a st = _
    rw [Jvm.Cond.before_and, ih, List.all_cons]
def words1 : List Jvm.Cond := Jvm.Cond.code x code maxLocals ret :: tables_1
/-- a 'code' word, met by the world's own term for the bytes: nothing is compared byte by byte -/
theorem code_word {y : MethodName} {bytes : ByteArray} {mx : Nat} {rt : Option FieldType} {a : Array Value} {s : State} {m : MethodId} {meth : Method} {c : Code} (h1 : s.methodNamed? y = some m) (h2 : s.vm.method? m = some meth) (h3 : meth.code = some c) (h4 : c.code = bytes)
    (h5 : (c.maxLocals == mx && c.exceptionTable.isEmpty && decide (c.maxStack ≤ mostOperands) && decide (meth.sig.returnType = rt) && !meth.locks && decide (parseMethodDescriptor y.desc = some meth.sig)) = true) : (Jvm.Cond.code y bytes mx rt).before a s = true := by
  simp only [Bool.and_eq_true, beq_iff_eq, Bool.not_eq_true', decide_eq_true_eq] at h5
  obtain ⟨⟨⟨⟨⟨g1, g2⟩, g3⟩, g4⟩, g5⟩, g6⟩ := h5
  simp [Cond.before, Cond.holds, Cond.value, h1, h2, h3, h4, g1, g2, g3, g4, g5, g6]
def isCode : Jvm.Cond → Bool
  | .code _ _ _ _ => true
  | _ => false
theorem all_split {L : List Jvm.Cond} {P : Jvm.Cond → Bool} (h1 : L.all (fun c => isCode c || P c) = true) (h2 : ∀ c ∈ L.filter isCode, P c = true) : L.all P = true := by
  refine List.all_eq_true.mpr fun c hc => ?_
  have h := List.all_eq_true.mp h1 c hc
  rcases Bool.eq_false_or_eq_true (isCode c) with hi | hi
  · exact h2 c (List.mem_filter.mpr ⟨hc, hi⟩)
  · simpa [hi] using h
set_option maxRecDepth 65536 in
theorem w_c0 : (Jvm.Cond.code x code maxLocals ret).before args0 about1 = true := code_word (m := ⟨1, 1⟩) (meth := k1m1) (c := k1c1) (by decide +kernel) rfl rfl rfl (by decide +kernel)
set_option maxRecDepth 65536 in
theorem w_c1 : (Jvm.Cond.code ({ cls := "java/lang/Math", name := "max", desc := "(JJ)J" } : Jvm.MethodName) jdk_29_method_66_code (4 : Nat) (Option.some Jvm.ClassFile.FieldType.long)).before args0 about1 = true := code_word (m := ⟨2, 1⟩) (meth := k2m1) (c := k2c1) (by decide +kernel) rfl rfl rfl (by decide +kernel)
set_option maxRecDepth 65536 in
theorem w_c2 : (Jvm.Cond.code ({ cls := "java/lang/Math", name := "min", desc := "(JJ)J" } : Jvm.MethodName) jdk_29_method_70_code (4 : Nat) (Option.some Jvm.ClassFile.FieldType.long)).before args0 about1 = true := code_word (m := ⟨2, 2⟩) (meth := k2m2) (c := k2c2) (by decide +kernel) rfl rfl rfl (by decide +kernel)
set_option maxRecDepth 65536 in
theorem w_c3 : (Jvm.Cond.code ({ cls := "com/example/tab30/tab30/book/Segment", name := "largestBlock", desc := "(JJ)J" } : Jvm.MethodName) prog_41_method_10_code (8 : Nat) (Option.some Jvm.ClassFile.FieldType.long)).before args0 about1 = true := code_word (m := ⟨3, 0⟩) (meth := k3m0) (c := k3c0) (by decide +kernel) rfl rfl rfl (by decide +kernel)
def codes1 : List Jvm.Cond := [Jvm.Cond.code x code maxLocals ret, Jvm.Cond.code ({ cls := "java/lang/Math", name := "max", desc := "(JJ)J" } : Jvm.MethodName) jdk_29_method_66_code (4 : Nat) (Option.some Jvm.ClassFile.FieldType.long), Jvm.Cond.code ({ cls := "java/lang/Math", name := "min", desc := "(JJ)J" } : Jvm.MethodName) jdk_29_method_70_code (4 : Nat) (Option.some Jvm.ClassFile.FieldType.long), Jvm.Cond.code ({ cls := "com/example/tab30/tab30/book/Segment", name := "largestBlock", desc := "(JJ)J" } : Jvm.MethodName) prog_41_method_10_code (8 : Nat) (Option.some Jvm.ClassFile.FieldType.long)]
set_option maxRecDepth 65536 in
theorem codes_eq : words1.filter isCode = codes1 := rfl
theorem w_codes : ∀ c ∈ words1.filter isCode, c.before args0 about1 = true := by
  rw [codes_eq]
  intro c hc
  simp only [codes1, List.mem_cons, List.not_mem_nil, or_false] at hc
  rcases hc with rfl | rfl | rfl | rfl
  · exact w_c0
  · exact w_c1
  · exact w_c2
  · exact w_c3
set_option maxRecDepth 65536 in
theorem w_t1 : words1.all (fun c => isCode c || c.before args0 about1) = true := by decide +kernel
theorem w_tables : (allAtoms (Jvm.Cond.code x code maxLocals ret :: tables_1)).before args0 about1 = true := by
  rw [allAtoms_all]
  show words1.all (fun c => c.before args0 about1) = true
  refine all_split ?_ w_codes
  rw [w_t1]
set_option maxRecDepth 65536 in
theorem w_case : (Jvm.Cond.and given_1 narrow_1).before args0 about1 = true := by decide +kernel
theorem w_applies : (headSpec (Jvm.Cond.code x code maxLocals ret :: tables_1) room_1).applies x e0.platform about1 = true :=
  (Spec.applies_iff w_frames).mpr ⟨w_running, w_runnable, w_alone, w_named, w_hears, w_ripe, w_room, w_tables⟩
theorem atStart : AtStart classFile x code maxLocals ret World_1 tables_1 room_1 Calls_1 rest_1 Pre_1 launch0 p0 e0 about1 theMethod args0 below0 :=
  ⟨lists_1, trivial, launch0.admits_env _ _ _, launch0.least_env, fairChoices_fair.cas, fairChoices_fair.clock, w_frames, w_args, w_heap, w_applies, trivial, trivial, w_case⟩
end start1
theorem witness_1 : WitnessClaimed_1 := ⟨start1.p0, start1.e0, start1.about1, start1.theMethod, start1.args0, start1.below0, start1.atStart⟩
end Jvm.Pilot.@@N@@
