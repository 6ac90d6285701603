import JvmDerived
import JvmDerived.Pilot.@@N@@Statement
import JvmDerived.Pilot.@@N@@Code
set_option linter.unusedVariables false
set_option linter.unusedSimpArgs false
namespace Jvm.RoadKit
open Sem ClassFile Op Lib Jvm.Stand Jvm.Free Jvm.LawKit
section New
variable {p : Program} {l : Launch} {e : Env} {R : Room} {s : State} {m : MethodId} {args : Array Value} {below : List Frame} {meth : Method} {c : Code} {T : State} {locs : List Loc} {cells slots : Nat}
theorem retI (X : Stand p l e R s m args below meth c T locs cells slots) (hx : p.tables.exec = Jvm.exec) {pc : Nat} {Ls : Array Slot} {z : Int32} {rest : List Value} (hret : meth.sig.returnType = some .int) (hd : decode c.code pc = .ok (.ireturn, 1)) {fs : List Frame}
    (hl : ∀ (f : JFrame) (acts : List Action), f.method = m → f.locked = none → f.entered = [] → (doReturn e (T.setTop f) acts (some (.int z))).1 = T.setFrames fs) : Steps p.tables e below (T.setTop (mkF m pc Ls (.int z :: rest))) (T.setFrames fs) := by
  have hm' : T.vm.method? m = some meth := X.method'
  have hn : narrow .int (.int z) = .int z := rfl
  show Steps p.tables e below (T.setTop { method := m, pc := pc, locals := Ls, stack := _ :: rest, locked := none }) _
  jvm_step X.here [X.here.top, hx, hd, hm', hret, hn]
  first | (intro acts; rw [hl _ acts rfl rfl rfl]) | rw [hl _ _ rfl rfl rfl]
  exact Steps.refl _
theorem retJ (X : Stand p l e R s m args below meth c T locs cells slots) (hx : p.tables.exec = Jvm.exec) {pc : Nat} {Ls : Array Slot} {z : Int64} {rest : List Value} (hret : meth.sig.returnType = some .long) (hd : decode c.code pc = .ok (.lreturn, 1)) {fs : List Frame}
    (hl : ∀ (f : JFrame) (acts : List Action), f.method = m → f.locked = none → f.entered = [] → (doReturn e (T.setTop f) acts (some (.long z))).1 = T.setFrames fs) : Steps p.tables e below (T.setTop (mkF m pc Ls (.long z :: rest))) (T.setFrames fs) := by
  have hm' : T.vm.method? m = some meth := X.method'
  have hn : narrow .long (.long z) = .long z := rfl
  show Steps p.tables e below (T.setTop { method := m, pc := pc, locals := Ls, stack := _ :: rest, locked := none }) _
  jvm_step X.here [X.here.top, hx, hd, hm', hret, hn]
  first | (intro acts; rw [hl _ acts rfl rfl rfl]) | rw [hl _ _ rfl rfl rfl]
  exact Steps.refl _
end New
end Jvm.RoadKit
namespace Jvm.Pilot.@@N@@
open Jvm Jvm.ClassFile Sem Op Lib Jvm.Free Jvm.Stand Jvm.LawKit Jvm.RoadKit Bundle Jvm.Pilot.@@N@@.Jvm.D
def QV (w : Option Value) (h0 : Heap) (n0 : Nat) (v : Option Value) (h : Heap) (L : List Loc) : Prop := v = w ∧ Fr n0 L ∧ h = h0
theorem d1_0 : decode prog_127_method_13_code 0 = .ok (.lload_n 0, 1) := by decide +kernel
theorem d1_1 : decode prog_127_method_13_code 1 = .ok (.lload_n 2, 1) := by decide +kernel
theorem d1_2 : decode prog_127_method_13_code 2 = .ok (.ladd, 1) := by decide +kernel
theorem d1_3 : decode prog_127_method_13_code 3 = .ok (.lstore 4, 2) := by decide +kernel
theorem d1_5 : decode prog_127_method_13_code 5 = .ok (.lload_n 0, 1) := by decide +kernel
theorem d1_6 : decode prog_127_method_13_code 6 = .ok (.lload 4, 2) := by decide +kernel
theorem d1_8 : decode prog_127_method_13_code 8 = .ok (.lxor, 1) := by decide +kernel
theorem d1_9 : decode prog_127_method_13_code 9 = .ok (.lload_n 2, 1) := by decide +kernel
theorem d1_10 : decode prog_127_method_13_code 10 = .ok (.lload 4, 2) := by decide +kernel
theorem d1_12 : decode prog_127_method_13_code 12 = .ok (.lxor, 1) := by decide +kernel
theorem d1_13 : decode prog_127_method_13_code 13 = .ok (.land, 1) := by decide +kernel
theorem d1_14 : decode prog_127_method_13_code 14 = .ok (.lconst 0, 1) := by decide +kernel
theorem d1_15 : decode prog_127_method_13_code 15 = .ok (.lcmp, 1) := by decide +kernel
theorem d1_16 : decode prog_127_method_13_code 16 = .ok (.ifCond .lt 7, 3) := by decide +kernel
theorem d1_23 : decode prog_127_method_13_code 23 = .ok (.iconst 0, 1) := by decide +kernel
theorem d1_24 : decode prog_127_method_13_code 24 = .ok (.ireturn, 1) := by decide +kernel
theorem pn_1 : plainName "com/example/tab30/tab30/money/Money" = true := by first | (simp [plainName, overriddenIn]; done) | decide +kernel
theorem ef_1 (m : MethodId) (x0 : Int64) (x1 : Int64) : entryFrame m #[(.long x0), (.long x1)] 6 = mkF m 0 #[.val (.long x0), .second, .val (.long x1), .second, .unset, .unset] [] := by first | (simp [entryFrame, mkF, argsToLocals, Value.category]; done) | rfl
theorem d1_19 : decode prog_127_method_13_code 19 = .ok (.iconst 1, 1) := by decide +kernel
theorem d1_20 : decode prog_127_method_13_code 20 = .ok (.goto 4, 3) := by decide +kernel
set_option maxRecDepth 65536 in
set_option maxHeartbeats 40000000 in
theorem rm1_t (l : Launch) (Z : State) (a0 : Array Value) (hw : ∀ d ∈ tables_1, d.before a0 Z = true) (ws : List Jvm.Cond) (q1 : Int64) (q2 : Int64) (h0 : Heap) (n0 : Nat) (Z0 : n0 ≤ h0.size) (hc16 : (lcmpW ((q1 ^^^ (q1 + q2)) &&& (q2 ^^^ (q1 + q2))) (0 : Int64)) < (0 : Int32)) :
    MetFree l (⟨"com/example/tab30/tab30/money/Money", "addsWithinLong", "(JJ)Z"⟩ : MethodName) (head1 (Jvm.Cond.code (⟨"com/example/tab30/tab30/money/Money", "addsWithinLong", "(JJ)Z"⟩ : MethodName) prog_127_method_13_code 6 (some .boolean) :: ws) ({ frames := 0, cells := 0, slots := 0, locals := 0 } : Room)) (fun a U => a = #[(.long q1), (.long q2)] ∧ Z.Warmed39 U.vm ∧ U.heap = h0) (fun _ _ _ _ _ => True) (fun _ U o U' => ∃ v L, o = .returned v ∧ QV (some (.int (0 : Int32))) h0 n0 v U'.heap L ∧ FrameEnd U o U' L ({ frames := 0, cells := 0, slots := 0, locals := 0 } : Room).cells ({ frames := 0, cells := 0, slots := 0, locals := 0 } : Room).slots) := by
  refine MetFree.of_bodySF (plainFor_of_name pn_1) hisR ?_
  intro p e s m args below meth c s₁ Bd hml0 hP hK
  obtain ⟨rfl, hZ, hh⟩ := hP
  have hx := Bd.exec
  have hby := Bd.bytes
  have hml : c.maxLocals = 6 := hml0
  have hown : s.vm.findClass "com/example/tab30/tab30/money/Money" = some m.cls := findClass_of_methodNamed Bd.named
  have hnm := (name_of_methodNamed Bd.named Bd.method).1
  have X0 : Stand p l e ({ frames := 0, cells := 0, slots := 0, locals := 0 } : Room) s m #[(.long q1), (.long q2)] below meth c s₁ [] 0 0 := Stand.of_body Bd
  have e0 : s₁.heap = h0 := by rw [← hh, Bd.state]; rfl
  have N0 := Fr.nil n0
  have pre0 : ∀ t, Steps p.tables e below (s₁.setTop (mkF m 0 #[.val (.long q1), .second, .val (.long q2), .second, .unset, .unset] [])) t → Steps p.tables e below (s₁.setTop (entryFrame m #[(.long q1), (.long q2)] 6)) t := fun t k => castTop (ef_1 m q1 q2) k

  obtain ⟨fs, hr, hrun, hended, hW, hsame⟩ := X0.leave (v := some (.int (0 : Int32))) (fun h => by rw [Bd.returns] at h; cases h)
  refine ⟨_, _, pre0 _ ?_, hrun, hended, _, _, rfl, ?_, ⟨_, rfl⟩, hW, hsame.mono (by decide) (by decide)⟩
  · show Steps p.tables e below (s₁.setTop (mkF m 0 #[.val (.long q1), .second, .val (.long q2), .second, .unset, .unset] [])) _
    refine XS.lloadN X0.here hx rfl (hb hby d1_0) rfl ?_
    show Steps p.tables e below (s₁.setTop (mkF m 1 #[.val (.long q1), .second, .val (.long q2), .second, .unset, .unset] [(.long q1)])) _
    refine XS.lloadN X0.here hx rfl (hb hby d1_1) rfl ?_
    show Steps p.tables e below (s₁.setTop (mkF m 2 #[.val (.long q1), .second, .val (.long q2), .second, .unset, .unset] [(.long q2), (.long q1)])) _
    refine XS.ladd X0.here hx rfl (hb hby d1_2) rfl ?_
    show Steps p.tables e below (s₁.setTop (mkF m 3 #[.val (.long q1), .second, .val (.long q2), .second, .unset, .unset] [(.long (q1 + q2))])) _
    refine XS.lstore X0.here hx rfl (hb hby d1_3) rfl (l' := #[.val (.long q1), .second, .val (.long q2), .second, .val (.long (q1 + q2)), .second]) rfl ?_
    show Steps p.tables e below (s₁.setTop (mkF m 5 #[.val (.long q1), .second, .val (.long q2), .second, .val (.long (q1 + q2)), .second] [])) _
    refine XS.lloadN X0.here hx rfl (hb hby d1_5) rfl ?_
    show Steps p.tables e below (s₁.setTop (mkF m 6 #[.val (.long q1), .second, .val (.long q2), .second, .val (.long (q1 + q2)), .second] [(.long q1)])) _
    refine XS.lload X0.here hx rfl (hb hby d1_6) rfl ?_
    show Steps p.tables e below (s₁.setTop (mkF m 8 #[.val (.long q1), .second, .val (.long q2), .second, .val (.long (q1 + q2)), .second] [(.long (q1 + q2)), (.long q1)])) _
    refine XS.lxor X0.here hx rfl (hb hby d1_8) rfl ?_
    show Steps p.tables e below (s₁.setTop (mkF m 9 #[.val (.long q1), .second, .val (.long q2), .second, .val (.long (q1 + q2)), .second] [(.long (q1 ^^^ (q1 + q2)))])) _
    refine XS.lloadN X0.here hx rfl (hb hby d1_9) rfl ?_
    show Steps p.tables e below (s₁.setTop (mkF m 10 #[.val (.long q1), .second, .val (.long q2), .second, .val (.long (q1 + q2)), .second] [(.long q2), (.long (q1 ^^^ (q1 + q2)))])) _
    refine XS.lload X0.here hx rfl (hb hby d1_10) rfl ?_
    show Steps p.tables e below (s₁.setTop (mkF m 12 #[.val (.long q1), .second, .val (.long q2), .second, .val (.long (q1 + q2)), .second] [(.long (q1 + q2)), (.long q2), (.long (q1 ^^^ (q1 + q2)))])) _
    refine XS.lxor X0.here hx rfl (hb hby d1_12) rfl ?_
    show Steps p.tables e below (s₁.setTop (mkF m 13 #[.val (.long q1), .second, .val (.long q2), .second, .val (.long (q1 + q2)), .second] [(.long (q2 ^^^ (q1 + q2))), (.long (q1 ^^^ (q1 + q2)))])) _
    refine XS.land X0.here hx rfl (hb hby d1_13) rfl ?_
    show Steps p.tables e below (s₁.setTop (mkF m 14 #[.val (.long q1), .second, .val (.long q2), .second, .val (.long (q1 + q2)), .second] [(.long ((q1 ^^^ (q1 + q2)) &&& (q2 ^^^ (q1 + q2))))])) _
    refine XS.lconst X0.here hx rfl (hb hby d1_14) ?_
    show Steps p.tables e below (s₁.setTop (mkF m 15 #[.val (.long q1), .second, .val (.long q2), .second, .val (.long (q1 + q2)), .second] [(.long (0 : Int64)), (.long ((q1 ^^^ (q1 + q2)) &&& (q2 ^^^ (q1 + q2))))])) _
    refine XS.lcmp X0.here hx rfl (hb hby d1_15) rfl ?_
    show Steps p.tables e below (s₁.setTop (mkF m 16 #[.val (.long q1), .second, .val (.long q2), .second, .val (.long (q1 + q2)), .second] [(.int (lcmpW ((q1 ^^^ (q1 + q2)) &&& (q2 ^^^ (q1 + q2))) (0 : Int64)))])) _
    refine XS.ifYes X0.here hx rfl (pc0 := 16) (pc' := 23) rfl (hb hby d1_16) rfl ((if0 _ _).trans (tlt hc16).1) (by decide) (by decide) ?_
    show Steps p.tables e below (s₁.setTop (mkF m 23 #[.val (.long q1), .second, .val (.long q2), .second, .val (.long (q1 + q2)), .second] [])) _
    refine XS.iconst X0.here hx rfl (hb hby d1_23) ?_
    show Steps p.tables e below (s₁.setTop (mkF m 24 #[.val (.long q1), .second, .val (.long q2), .second, .val (.long (q1 + q2)), .second] [(.int (0 : Int32))])) _
    exact retN X0 hx (t := .boolean) Bd.returns (by simp) (hb hby d1_24) hr
  · show QV (some (.int (0 : Int32))) h0 n0 _ s₁.heap _
    rw [e0]
    exact ⟨rfl, N0, rfl⟩
set_option maxRecDepth 65536 in
set_option maxHeartbeats 40000000 in
theorem rm1_f (l : Launch) (Z : State) (a0 : Array Value) (hw : ∀ d ∈ tables_1, d.before a0 Z = true) (ws : List Jvm.Cond) (q1 : Int64) (q2 : Int64) (h0 : Heap) (n0 : Nat) (Z0 : n0 ≤ h0.size) (hc16 : ¬ ((lcmpW ((q1 ^^^ (q1 + q2)) &&& (q2 ^^^ (q1 + q2))) (0 : Int64)) < (0 : Int32))) :
    MetFree l (⟨"com/example/tab30/tab30/money/Money", "addsWithinLong", "(JJ)Z"⟩ : MethodName) (head1 (Jvm.Cond.code (⟨"com/example/tab30/tab30/money/Money", "addsWithinLong", "(JJ)Z"⟩ : MethodName) prog_127_method_13_code 6 (some .boolean) :: ws) ({ frames := 0, cells := 0, slots := 0, locals := 0 } : Room)) (fun a U => a = #[(.long q1), (.long q2)] ∧ Z.Warmed39 U.vm ∧ U.heap = h0) (fun _ _ _ _ _ => True) (fun _ U o U' => ∃ v L, o = .returned v ∧ QV (some (.int (1 : Int32))) h0 n0 v U'.heap L ∧ FrameEnd U o U' L ({ frames := 0, cells := 0, slots := 0, locals := 0 } : Room).cells ({ frames := 0, cells := 0, slots := 0, locals := 0 } : Room).slots) := by
  refine MetFree.of_bodySF (plainFor_of_name pn_1) hisR ?_
  intro p e s m args below meth c s₁ Bd hml0 hP hK
  obtain ⟨rfl, hZ, hh⟩ := hP
  have hx := Bd.exec
  have hby := Bd.bytes
  have hml : c.maxLocals = 6 := hml0
  have hown : s.vm.findClass "com/example/tab30/tab30/money/Money" = some m.cls := findClass_of_methodNamed Bd.named
  have hnm := (name_of_methodNamed Bd.named Bd.method).1
  have X0 : Stand p l e ({ frames := 0, cells := 0, slots := 0, locals := 0 } : Room) s m #[(.long q1), (.long q2)] below meth c s₁ [] 0 0 := Stand.of_body Bd
  have e0 : s₁.heap = h0 := by rw [← hh, Bd.state]; rfl
  have N0 := Fr.nil n0
  have pre0 : ∀ t, Steps p.tables e below (s₁.setTop (mkF m 0 #[.val (.long q1), .second, .val (.long q2), .second, .unset, .unset] [])) t → Steps p.tables e below (s₁.setTop (entryFrame m #[(.long q1), (.long q2)] 6)) t := fun t k => castTop (ef_1 m q1 q2) k

  obtain ⟨fs, hr, hrun, hended, hW, hsame⟩ := X0.leave (v := some (.int (1 : Int32))) (fun h => by rw [Bd.returns] at h; cases h)
  refine ⟨_, _, pre0 _ ?_, hrun, hended, _, _, rfl, ?_, ⟨_, rfl⟩, hW, hsame.mono (by decide) (by decide)⟩
  · show Steps p.tables e below (s₁.setTop (mkF m 0 #[.val (.long q1), .second, .val (.long q2), .second, .unset, .unset] [])) _
    refine XS.lloadN X0.here hx rfl (hb hby d1_0) rfl ?_
    show Steps p.tables e below (s₁.setTop (mkF m 1 #[.val (.long q1), .second, .val (.long q2), .second, .unset, .unset] [(.long q1)])) _
    refine XS.lloadN X0.here hx rfl (hb hby d1_1) rfl ?_
    show Steps p.tables e below (s₁.setTop (mkF m 2 #[.val (.long q1), .second, .val (.long q2), .second, .unset, .unset] [(.long q2), (.long q1)])) _
    refine XS.ladd X0.here hx rfl (hb hby d1_2) rfl ?_
    show Steps p.tables e below (s₁.setTop (mkF m 3 #[.val (.long q1), .second, .val (.long q2), .second, .unset, .unset] [(.long (q1 + q2))])) _
    refine XS.lstore X0.here hx rfl (hb hby d1_3) rfl (l' := #[.val (.long q1), .second, .val (.long q2), .second, .val (.long (q1 + q2)), .second]) rfl ?_
    show Steps p.tables e below (s₁.setTop (mkF m 5 #[.val (.long q1), .second, .val (.long q2), .second, .val (.long (q1 + q2)), .second] [])) _
    refine XS.lloadN X0.here hx rfl (hb hby d1_5) rfl ?_
    show Steps p.tables e below (s₁.setTop (mkF m 6 #[.val (.long q1), .second, .val (.long q2), .second, .val (.long (q1 + q2)), .second] [(.long q1)])) _
    refine XS.lload X0.here hx rfl (hb hby d1_6) rfl ?_
    show Steps p.tables e below (s₁.setTop (mkF m 8 #[.val (.long q1), .second, .val (.long q2), .second, .val (.long (q1 + q2)), .second] [(.long (q1 + q2)), (.long q1)])) _
    refine XS.lxor X0.here hx rfl (hb hby d1_8) rfl ?_
    show Steps p.tables e below (s₁.setTop (mkF m 9 #[.val (.long q1), .second, .val (.long q2), .second, .val (.long (q1 + q2)), .second] [(.long (q1 ^^^ (q1 + q2)))])) _
    refine XS.lloadN X0.here hx rfl (hb hby d1_9) rfl ?_
    show Steps p.tables e below (s₁.setTop (mkF m 10 #[.val (.long q1), .second, .val (.long q2), .second, .val (.long (q1 + q2)), .second] [(.long q2), (.long (q1 ^^^ (q1 + q2)))])) _
    refine XS.lload X0.here hx rfl (hb hby d1_10) rfl ?_
    show Steps p.tables e below (s₁.setTop (mkF m 12 #[.val (.long q1), .second, .val (.long q2), .second, .val (.long (q1 + q2)), .second] [(.long (q1 + q2)), (.long q2), (.long (q1 ^^^ (q1 + q2)))])) _
    refine XS.lxor X0.here hx rfl (hb hby d1_12) rfl ?_
    show Steps p.tables e below (s₁.setTop (mkF m 13 #[.val (.long q1), .second, .val (.long q2), .second, .val (.long (q1 + q2)), .second] [(.long (q2 ^^^ (q1 + q2))), (.long (q1 ^^^ (q1 + q2)))])) _
    refine XS.land X0.here hx rfl (hb hby d1_13) rfl ?_
    show Steps p.tables e below (s₁.setTop (mkF m 14 #[.val (.long q1), .second, .val (.long q2), .second, .val (.long (q1 + q2)), .second] [(.long ((q1 ^^^ (q1 + q2)) &&& (q2 ^^^ (q1 + q2))))])) _
    refine XS.lconst X0.here hx rfl (hb hby d1_14) ?_
    show Steps p.tables e below (s₁.setTop (mkF m 15 #[.val (.long q1), .second, .val (.long q2), .second, .val (.long (q1 + q2)), .second] [(.long (0 : Int64)), (.long ((q1 ^^^ (q1 + q2)) &&& (q2 ^^^ (q1 + q2))))])) _
    refine XS.lcmp X0.here hx rfl (hb hby d1_15) rfl ?_
    show Steps p.tables e below (s₁.setTop (mkF m 16 #[.val (.long q1), .second, .val (.long q2), .second, .val (.long (q1 + q2)), .second] [(.int (lcmpW ((q1 ^^^ (q1 + q2)) &&& (q2 ^^^ (q1 + q2))) (0 : Int64)))])) _
    refine XS.ifNo X0.here hx rfl (hb hby d1_16) rfl ((if0 _ _).trans (flt hc16).1) ?_
    show Steps p.tables e below (s₁.setTop (mkF m 19 #[.val (.long q1), .second, .val (.long q2), .second, .val (.long (q1 + q2)), .second] [])) _
    refine XS.iconst X0.here hx rfl (hb hby d1_19) ?_
    show Steps p.tables e below (s₁.setTop (mkF m 20 #[.val (.long q1), .second, .val (.long q2), .second, .val (.long (q1 + q2)), .second] [(.int (1 : Int32))])) _
    refine XS.goto X0.here hx rfl (pc0 := 20) (pc' := 24) rfl (hb hby d1_20) (by decide) (by decide) ?_
    show Steps p.tables e below (s₁.setTop (mkF m 24 #[.val (.long q1), .second, .val (.long q2), .second, .val (.long (q1 + q2)), .second] [(.int (1 : Int32))])) _
    exact retN X0 hx (t := .boolean) Bd.returns (by simp) (hb hby d1_24) hr
  · show QV (some (.int (1 : Int32))) h0 n0 _ s₁.heap _
    rw [e0]
    exact ⟨rfl, N0, rfl⟩
def own_adds (q1 : Int64) (q2 : Int64) : Int32 := (if (lcmpW ((q1 ^^^ (q1 + q2)) &&& (q2 ^^^ (q1 + q2))) (0 : Int64)) < (0 : Int32) then (0 : Int32) else (1 : Int32))
theorem rm1 (l : Launch) (Z : State) (a0 : Array Value) (hw : ∀ d ∈ tables_1, d.before a0 Z = true) (ws : List Jvm.Cond) (q1 : Int64) (q2 : Int64) (h0 : Heap) (n0 : Nat) (Z0 : n0 ≤ h0.size) :
    MetFree l (⟨"com/example/tab30/tab30/money/Money", "addsWithinLong", "(JJ)Z"⟩ : MethodName) (head1 (Jvm.Cond.code (⟨"com/example/tab30/tab30/money/Money", "addsWithinLong", "(JJ)Z"⟩ : MethodName) prog_127_method_13_code 6 (some .boolean) :: ws) ({ frames := 0, cells := 0, slots := 0, locals := 0 } : Room)) (fun a U => a = #[(.long q1), (.long q2)] ∧ Z.Warmed39 U.vm ∧ U.heap = h0) (fun _ _ _ _ _ => True) (fun _ U o U' => ∃ v L, o = .returned v ∧ QV (some (.int (own_adds q1 q2))) h0 n0 v U'.heap L ∧ FrameEnd U o U' L ({ frames := 0, cells := 0, slots := 0, locals := 0 } : Room).cells ({ frames := 0, cells := 0, slots := 0, locals := 0 } : Room).slots) := by
  by_cases hc16 : (lcmpW ((q1 ^^^ (q1 + q2)) &&& (q2 ^^^ (q1 + q2))) (0 : Int64)) < (0 : Int32)
  · have he : own_adds q1 q2 = (0 : Int32) := by unfold own_adds; rw [if_pos hc16]
    rw [he]; exact rm1_t l Z a0 hw ws q1 q2 h0 n0 Z0 hc16
  · have he : own_adds q1 q2 = (1 : Int32) := by unfold own_adds; rw [if_neg hc16]
    rw [he]; exact rm1_f l Z a0 hw ws q1 q2 h0 n0 Z0 hc16
theorem d2_0 : decode method_2_code 0 = .ok (.lload_n 0, 1) := by decide +kernel
theorem d2_1 : decode method_2_code 1 = .ok (.lconst 0, 1) := by decide +kernel
theorem d2_2 : decode method_2_code 2 = .ok (.lcmp, 1) := by decide +kernel
theorem d2_3 : decode method_2_code 3 = .ok (.ifCond .lt 29, 3) := by decide +kernel
theorem d2_32 : decode method_2_code 32 = .ok (.lload_n 0, 1) := by decide +kernel
theorem d2_33 : decode method_2_code 33 = .ok (.lconst 0, 1) := by decide +kernel
theorem d2_34 : decode method_2_code 34 = .ok (.lcmp, 1) := by decide +kernel
theorem d2_35 : decode method_2_code 35 = .ok (.ifCond .ge 29, 3) := by decide +kernel
theorem d2_64 : decode method_2_code 64 = .ok (.iconst 1, 1) := by decide +kernel
theorem d2_65 : decode method_2_code 65 = .ok (.istore 4, 2) := by decide +kernel
theorem d2_67 : decode method_2_code 67 = .ok (.iload 4, 2) := by decide +kernel
theorem d2_69 : decode method_2_code 69 = .ok (.ireturn, 1) := by decide +kernel
theorem pn_2 : plainName "com/example/tab30/tab30/money/MoneyAddsWithinLongPinLaw" = true := by first | (simp [plainName, overriddenIn]; done) | decide +kernel
theorem ef_2 (m : MethodId) (x0 : Int64) (x1 : Int64) : entryFrame m #[(.long x0), (.long x1)] 5 = mkF m 0 #[.val (.long x0), .second, .val (.long x1), .second, .unset] [] := by first | (simp [entryFrame, mkF, argsToLocals, Value.category]; done) | rfl
theorem d2_38 : decode method_2_code 38 = .ok (.lload_n 2, 1) := by decide +kernel
theorem d2_39 : decode method_2_code 39 = .ok (.lconst 0, 1) := by decide +kernel
theorem d2_40 : decode method_2_code 40 = .ok (.lcmp, 1) := by decide +kernel
theorem d2_41 : decode method_2_code 41 = .ok (.ifCond .ge 23, 3) := by decide +kernel
theorem d2_44 : decode method_2_code 44 = .ok (.lload_n 0, 1) := by decide +kernel
theorem d2_45 : decode method_2_code 45 = .ok (.ldc2_w 11, 3) := by decide +kernel
theorem d2_48 : decode method_2_code 48 = .ok (.lload_n 2, 1) := by decide +kernel
theorem d2_49 : decode method_2_code 49 = .ok (.lsub, 1) := by decide +kernel
theorem d2_50 : decode method_2_code 50 = .ok (.lcmp, 1) := by decide +kernel
theorem d2_51 : decode method_2_code 51 = .ok (.ifCond .lt 7, 3) := by decide +kernel
theorem d2_58 : decode method_2_code 58 = .ok (.iconst 0, 1) := by decide +kernel
theorem d2_59 : decode method_2_code 59 = .ok (.istore 4, 2) := by decide +kernel
theorem d2_61 : decode method_2_code 61 = .ok (.goto 6, 3) := by decide +kernel
theorem d2_54 : decode method_2_code 54 = .ok (.iconst 1, 1) := by decide +kernel
theorem d2_55 : decode method_2_code 55 = .ok (.goto 4, 3) := by decide +kernel
theorem d2_6 : decode method_2_code 6 = .ok (.lload_n 2, 1) := by decide +kernel
theorem d2_7 : decode method_2_code 7 = .ok (.lconst 0, 1) := by decide +kernel
theorem d2_8 : decode method_2_code 8 = .ok (.lcmp, 1) := by decide +kernel
theorem d2_9 : decode method_2_code 9 = .ok (.ifCond .lt 23, 3) := by decide +kernel
theorem d2_12 : decode method_2_code 12 = .ok (.lload_n 0, 1) := by decide +kernel
theorem d2_13 : decode method_2_code 13 = .ok (.ldc2_w 9, 3) := by decide +kernel
theorem d2_16 : decode method_2_code 16 = .ok (.lload_n 2, 1) := by decide +kernel
theorem d2_17 : decode method_2_code 17 = .ok (.lsub, 1) := by decide +kernel
theorem d2_18 : decode method_2_code 18 = .ok (.lcmp, 1) := by decide +kernel
theorem d2_19 : decode method_2_code 19 = .ok (.ifCond .gt 7, 3) := by decide +kernel
theorem d2_26 : decode method_2_code 26 = .ok (.iconst 0, 1) := by decide +kernel
theorem d2_27 : decode method_2_code 27 = .ok (.istore 4, 2) := by decide +kernel
theorem d2_29 : decode method_2_code 29 = .ok (.goto 38, 3) := by decide +kernel
theorem d2_22 : decode method_2_code 22 = .ok (.iconst 1, 1) := by decide +kernel
theorem d2_23 : decode method_2_code 23 = .ok (.goto 4, 3) := by decide +kernel
set_option maxRecDepth 65536 in
set_option maxHeartbeats 40000000 in
theorem rm2_tt (l : Launch) (Z : State) (a0 : Array Value) (hw : ∀ d ∈ tables_1, d.before a0 Z = true) (ws : List Jvm.Cond) (q1 : Int64) (q2 : Int64) (h0 : Heap) (n0 : Nat) (Z0 : n0 ≤ h0.size) (hc3 : (lcmpW q1 (0 : Int64)) < (0 : Int32)) (hc35 : ¬ ((lcmpW q1 (0 : Int64)) < (0 : Int32))) :
    MetFree l (⟨"com/example/tab30/tab30/money/MoneyAddsWithinLongPinLaw", "expected", "(JJ)Z"⟩ : MethodName) (head1 (Jvm.Cond.code (⟨"com/example/tab30/tab30/money/MoneyAddsWithinLongPinLaw", "expected", "(JJ)Z"⟩ : MethodName) method_2_code 5 (some .boolean) :: ws) ({ frames := 0, cells := 0, slots := 0, locals := 0 } : Room)) (fun a U => a = #[(.long q1), (.long q2)] ∧ Z.Warmed39 U.vm ∧ U.heap = h0) (fun _ _ _ _ _ => True) (fun _ U o U' => ∃ v L, o = .returned v ∧ QV (some (.int (1 : Int32))) h0 n0 v U'.heap L ∧ FrameEnd U o U' L ({ frames := 0, cells := 0, slots := 0, locals := 0 } : Room).cells ({ frames := 0, cells := 0, slots := 0, locals := 0 } : Room).slots) := by
  refine MetFree.of_bodySF (plainFor_of_name pn_2) hisR ?_
  intro p e s m args below meth c s₁ Bd hml0 hP hK
  obtain ⟨rfl, hZ, hh⟩ := hP
  have hx := Bd.exec
  have hby := Bd.bytes
  have hml : c.maxLocals = 5 := hml0
  have hown : s.vm.findClass "com/example/tab30/tab30/money/MoneyAddsWithinLongPinLaw" = some m.cls := findClass_of_methodNamed Bd.named
  have hnm := (name_of_methodNamed Bd.named Bd.method).1
  have X0 : Stand p l e ({ frames := 0, cells := 0, slots := 0, locals := 0 } : Room) s m #[(.long q1), (.long q2)] below meth c s₁ [] 0 0 := Stand.of_body Bd
  have e0 : s₁.heap = h0 := by rw [← hh, Bd.state]; rfl
  have N0 := Fr.nil n0
  have pre0 : ∀ t, Steps p.tables e below (s₁.setTop (mkF m 0 #[.val (.long q1), .second, .val (.long q2), .second, .unset] [])) t → Steps p.tables e below (s₁.setTop (entryFrame m #[(.long q1), (.long q2)] 5)) t := fun t k => castTop (ef_2 m q1 q2) k

  obtain ⟨fs, hr, hrun, hended, hW, hsame⟩ := X0.leave (v := some (.int (1 : Int32))) (fun h => by rw [Bd.returns] at h; cases h)
  refine ⟨_, _, pre0 _ ?_, hrun, hended, _, _, rfl, ?_, ⟨_, rfl⟩, hW, hsame.mono (by decide) (by decide)⟩
  · show Steps p.tables e below (s₁.setTop (mkF m 0 #[.val (.long q1), .second, .val (.long q2), .second, .unset] [])) _
    refine XS.lloadN X0.here hx rfl (hb hby d2_0) rfl ?_
    show Steps p.tables e below (s₁.setTop (mkF m 1 #[.val (.long q1), .second, .val (.long q2), .second, .unset] [(.long q1)])) _
    refine XS.lconst X0.here hx rfl (hb hby d2_1) ?_
    show Steps p.tables e below (s₁.setTop (mkF m 2 #[.val (.long q1), .second, .val (.long q2), .second, .unset] [(.long (0 : Int64)), (.long q1)])) _
    refine XS.lcmp X0.here hx rfl (hb hby d2_2) rfl ?_
    show Steps p.tables e below (s₁.setTop (mkF m 3 #[.val (.long q1), .second, .val (.long q2), .second, .unset] [(.int (lcmpW q1 (0 : Int64)))])) _
    refine XS.ifYes X0.here hx rfl (pc0 := 3) (pc' := 32) rfl (hb hby d2_3) rfl ((if0 _ _).trans (tlt hc3).1) (by decide) (by decide) ?_
    show Steps p.tables e below (s₁.setTop (mkF m 32 #[.val (.long q1), .second, .val (.long q2), .second, .unset] [])) _
    refine XS.lloadN X0.here hx rfl (hb hby d2_32) rfl ?_
    show Steps p.tables e below (s₁.setTop (mkF m 33 #[.val (.long q1), .second, .val (.long q2), .second, .unset] [(.long q1)])) _
    refine XS.lconst X0.here hx rfl (hb hby d2_33) ?_
    show Steps p.tables e below (s₁.setTop (mkF m 34 #[.val (.long q1), .second, .val (.long q2), .second, .unset] [(.long (0 : Int64)), (.long q1)])) _
    refine XS.lcmp X0.here hx rfl (hb hby d2_34) rfl ?_
    show Steps p.tables e below (s₁.setTop (mkF m 35 #[.val (.long q1), .second, .val (.long q2), .second, .unset] [(.int (lcmpW q1 (0 : Int64)))])) _
    refine XS.ifYes X0.here hx rfl (pc0 := 35) (pc' := 64) rfl (hb hby d2_35) rfl ((if0 _ _).trans (flt hc35).2.1) (by decide) (by decide) ?_
    show Steps p.tables e below (s₁.setTop (mkF m 64 #[.val (.long q1), .second, .val (.long q2), .second, .unset] [])) _
    refine XS.iconst X0.here hx rfl (hb hby d2_64) ?_
    show Steps p.tables e below (s₁.setTop (mkF m 65 #[.val (.long q1), .second, .val (.long q2), .second, .unset] [(.int (1 : Int32))])) _
    refine XS.istore X0.here hx rfl (hb hby d2_65) rfl (l' := #[.val (.long q1), .second, .val (.long q2), .second, .val (.int (1 : Int32))]) rfl ?_
    show Steps p.tables e below (s₁.setTop (mkF m 67 #[.val (.long q1), .second, .val (.long q2), .second, .val (.int (1 : Int32))] [])) _
    refine XS.iload X0.here hx rfl (hb hby d2_67) rfl ?_
    show Steps p.tables e below (s₁.setTop (mkF m 69 #[.val (.long q1), .second, .val (.long q2), .second, .val (.int (1 : Int32))] [(.int (1 : Int32))])) _
    exact retN X0 hx (t := .boolean) Bd.returns (by simp) (hb hby d2_69) hr
  · show QV (some (.int (1 : Int32))) h0 n0 _ s₁.heap _
    rw [e0]
    exact ⟨rfl, N0, rfl⟩
set_option maxRecDepth 65536 in
set_option maxHeartbeats 40000000 in
theorem rm2_tft (l : Launch) (Z : State) (a0 : Array Value) (hw : ∀ d ∈ tables_1, d.before a0 Z = true) (ws : List Jvm.Cond) (q1 : Int64) (q2 : Int64) (h0 : Heap) (n0 : Nat) (Z0 : n0 ≤ h0.size) (hc3 : (lcmpW q1 (0 : Int64)) < (0 : Int32)) (hc35 : (lcmpW q1 (0 : Int64)) < (0 : Int32)) (hc41 : ¬ ((lcmpW q2 (0 : Int64)) < (0 : Int32))) :
    MetFree l (⟨"com/example/tab30/tab30/money/MoneyAddsWithinLongPinLaw", "expected", "(JJ)Z"⟩ : MethodName) (head1 (Jvm.Cond.code (⟨"com/example/tab30/tab30/money/MoneyAddsWithinLongPinLaw", "expected", "(JJ)Z"⟩ : MethodName) method_2_code 5 (some .boolean) :: ws) ({ frames := 0, cells := 0, slots := 0, locals := 0 } : Room)) (fun a U => a = #[(.long q1), (.long q2)] ∧ Z.Warmed39 U.vm ∧ U.heap = h0) (fun _ _ _ _ _ => True) (fun _ U o U' => ∃ v L, o = .returned v ∧ QV (some (.int (1 : Int32))) h0 n0 v U'.heap L ∧ FrameEnd U o U' L ({ frames := 0, cells := 0, slots := 0, locals := 0 } : Room).cells ({ frames := 0, cells := 0, slots := 0, locals := 0 } : Room).slots) := by
  refine MetFree.of_bodySF (plainFor_of_name pn_2) hisR ?_
  intro p e s m args below meth c s₁ Bd hml0 hP hK
  obtain ⟨rfl, hZ, hh⟩ := hP
  have hx := Bd.exec
  have hby := Bd.bytes
  have hml : c.maxLocals = 5 := hml0
  have hown : s.vm.findClass "com/example/tab30/tab30/money/MoneyAddsWithinLongPinLaw" = some m.cls := findClass_of_methodNamed Bd.named
  have hnm := (name_of_methodNamed Bd.named Bd.method).1
  have X0 : Stand p l e ({ frames := 0, cells := 0, slots := 0, locals := 0 } : Room) s m #[(.long q1), (.long q2)] below meth c s₁ [] 0 0 := Stand.of_body Bd
  have e0 : s₁.heap = h0 := by rw [← hh, Bd.state]; rfl
  have N0 := Fr.nil n0
  have pre0 : ∀ t, Steps p.tables e below (s₁.setTop (mkF m 0 #[.val (.long q1), .second, .val (.long q2), .second, .unset] [])) t → Steps p.tables e below (s₁.setTop (entryFrame m #[(.long q1), (.long q2)] 5)) t := fun t k => castTop (ef_2 m q1 q2) k

  obtain ⟨fs, hr, hrun, hended, hW, hsame⟩ := X0.leave (v := some (.int (1 : Int32))) (fun h => by rw [Bd.returns] at h; cases h)
  refine ⟨_, _, pre0 _ ?_, hrun, hended, _, _, rfl, ?_, ⟨_, rfl⟩, hW, hsame.mono (by decide) (by decide)⟩
  · show Steps p.tables e below (s₁.setTop (mkF m 0 #[.val (.long q1), .second, .val (.long q2), .second, .unset] [])) _
    refine XS.lloadN X0.here hx rfl (hb hby d2_0) rfl ?_
    show Steps p.tables e below (s₁.setTop (mkF m 1 #[.val (.long q1), .second, .val (.long q2), .second, .unset] [(.long q1)])) _
    refine XS.lconst X0.here hx rfl (hb hby d2_1) ?_
    show Steps p.tables e below (s₁.setTop (mkF m 2 #[.val (.long q1), .second, .val (.long q2), .second, .unset] [(.long (0 : Int64)), (.long q1)])) _
    refine XS.lcmp X0.here hx rfl (hb hby d2_2) rfl ?_
    show Steps p.tables e below (s₁.setTop (mkF m 3 #[.val (.long q1), .second, .val (.long q2), .second, .unset] [(.int (lcmpW q1 (0 : Int64)))])) _
    refine XS.ifYes X0.here hx rfl (pc0 := 3) (pc' := 32) rfl (hb hby d2_3) rfl ((if0 _ _).trans (tlt hc3).1) (by decide) (by decide) ?_
    show Steps p.tables e below (s₁.setTop (mkF m 32 #[.val (.long q1), .second, .val (.long q2), .second, .unset] [])) _
    refine XS.lloadN X0.here hx rfl (hb hby d2_32) rfl ?_
    show Steps p.tables e below (s₁.setTop (mkF m 33 #[.val (.long q1), .second, .val (.long q2), .second, .unset] [(.long q1)])) _
    refine XS.lconst X0.here hx rfl (hb hby d2_33) ?_
    show Steps p.tables e below (s₁.setTop (mkF m 34 #[.val (.long q1), .second, .val (.long q2), .second, .unset] [(.long (0 : Int64)), (.long q1)])) _
    refine XS.lcmp X0.here hx rfl (hb hby d2_34) rfl ?_
    show Steps p.tables e below (s₁.setTop (mkF m 35 #[.val (.long q1), .second, .val (.long q2), .second, .unset] [(.int (lcmpW q1 (0 : Int64)))])) _
    refine XS.ifNo X0.here hx rfl (hb hby d2_35) rfl ((if0 _ _).trans (tlt hc35).2.1) ?_
    show Steps p.tables e below (s₁.setTop (mkF m 38 #[.val (.long q1), .second, .val (.long q2), .second, .unset] [])) _
    refine XS.lloadN X0.here hx rfl (hb hby d2_38) rfl ?_
    show Steps p.tables e below (s₁.setTop (mkF m 39 #[.val (.long q1), .second, .val (.long q2), .second, .unset] [(.long q2)])) _
    refine XS.lconst X0.here hx rfl (hb hby d2_39) ?_
    show Steps p.tables e below (s₁.setTop (mkF m 40 #[.val (.long q1), .second, .val (.long q2), .second, .unset] [(.long (0 : Int64)), (.long q2)])) _
    refine XS.lcmp X0.here hx rfl (hb hby d2_40) rfl ?_
    show Steps p.tables e below (s₁.setTop (mkF m 41 #[.val (.long q1), .second, .val (.long q2), .second, .unset] [(.int (lcmpW q2 (0 : Int64)))])) _
    refine XS.ifYes X0.here hx rfl (pc0 := 41) (pc' := 64) rfl (hb hby d2_41) rfl ((if0 _ _).trans (flt hc41).2.1) (by decide) (by decide) ?_
    show Steps p.tables e below (s₁.setTop (mkF m 64 #[.val (.long q1), .second, .val (.long q2), .second, .unset] [])) _
    refine XS.iconst X0.here hx rfl (hb hby d2_64) ?_
    show Steps p.tables e below (s₁.setTop (mkF m 65 #[.val (.long q1), .second, .val (.long q2), .second, .unset] [(.int (1 : Int32))])) _
    refine XS.istore X0.here hx rfl (hb hby d2_65) rfl (l' := #[.val (.long q1), .second, .val (.long q2), .second, .val (.int (1 : Int32))]) rfl ?_
    show Steps p.tables e below (s₁.setTop (mkF m 67 #[.val (.long q1), .second, .val (.long q2), .second, .val (.int (1 : Int32))] [])) _
    refine XS.iload X0.here hx rfl (hb hby d2_67) rfl ?_
    show Steps p.tables e below (s₁.setTop (mkF m 69 #[.val (.long q1), .second, .val (.long q2), .second, .val (.int (1 : Int32))] [(.int (1 : Int32))])) _
    exact retN X0 hx (t := .boolean) Bd.returns (by simp) (hb hby d2_69) hr
  · show QV (some (.int (1 : Int32))) h0 n0 _ s₁.heap _
    rw [e0]
    exact ⟨rfl, N0, rfl⟩
set_option maxRecDepth 65536 in
set_option maxHeartbeats 40000000 in
theorem rm2_tfft (l : Launch) (Z : State) (a0 : Array Value) (hw : ∀ d ∈ tables_1, d.before a0 Z = true) (ws : List Jvm.Cond) (q1 : Int64) (q2 : Int64) (h0 : Heap) (n0 : Nat) (Z0 : n0 ≤ h0.size) (hc3 : (lcmpW q1 (0 : Int64)) < (0 : Int32)) (hc35 : (lcmpW q1 (0 : Int64)) < (0 : Int32)) (hc41 : (lcmpW q2 (0 : Int64)) < (0 : Int32)) (hc51 : (lcmpW q1 ((-9223372036854775808 : Int64) - q2)) < (0 : Int32)) :
    MetFree l (⟨"com/example/tab30/tab30/money/MoneyAddsWithinLongPinLaw", "expected", "(JJ)Z"⟩ : MethodName) (head1 (Jvm.Cond.code (⟨"com/example/tab30/tab30/money/MoneyAddsWithinLongPinLaw", "expected", "(JJ)Z"⟩ : MethodName) method_2_code 5 (some .boolean) :: ws) ({ frames := 0, cells := 0, slots := 0, locals := 0 } : Room)) (fun a U => a = #[(.long q1), (.long q2)] ∧ Z.Warmed39 U.vm ∧ U.heap = h0) (fun _ _ _ _ _ => True) (fun _ U o U' => ∃ v L, o = .returned v ∧ QV (some (.int (0 : Int32))) h0 n0 v U'.heap L ∧ FrameEnd U o U' L ({ frames := 0, cells := 0, slots := 0, locals := 0 } : Room).cells ({ frames := 0, cells := 0, slots := 0, locals := 0 } : Room).slots) := by
  refine MetFree.of_bodySF (plainFor_of_name pn_2) hisR ?_
  intro p e s m args below meth c s₁ Bd hml0 hP hK
  obtain ⟨rfl, hZ, hh⟩ := hP
  have hx := Bd.exec
  have hby := Bd.bytes
  have hml : c.maxLocals = 5 := hml0
  have hown : s.vm.findClass "com/example/tab30/tab30/money/MoneyAddsWithinLongPinLaw" = some m.cls := findClass_of_methodNamed Bd.named
  have hnm := (name_of_methodNamed Bd.named Bd.method).1
  have X0 : Stand p l e ({ frames := 0, cells := 0, slots := 0, locals := 0 } : Room) s m #[(.long q1), (.long q2)] below meth c s₁ [] 0 0 := Stand.of_body Bd
  have e0 : s₁.heap = h0 := by rw [← hh, Bd.state]; rfl
  have N0 := Fr.nil n0
  have pre0 : ∀ t, Steps p.tables e below (s₁.setTop (mkF m 0 #[.val (.long q1), .second, .val (.long q2), .second, .unset] [])) t → Steps p.tables e below (s₁.setTop (entryFrame m #[(.long q1), (.long q2)] 5)) t := fun t k => castTop (ef_2 m q1 q2) k

  obtain ⟨fs, hr, hrun, hended, hW, hsame⟩ := X0.leave (v := some (.int (0 : Int32))) (fun h => by rw [Bd.returns] at h; cases h)
  refine ⟨_, _, pre0 _ ?_, hrun, hended, _, _, rfl, ?_, ⟨_, rfl⟩, hW, hsame.mono (by decide) (by decide)⟩
  · show Steps p.tables e below (s₁.setTop (mkF m 0 #[.val (.long q1), .second, .val (.long q2), .second, .unset] [])) _
    refine XS.lloadN X0.here hx rfl (hb hby d2_0) rfl ?_
    show Steps p.tables e below (s₁.setTop (mkF m 1 #[.val (.long q1), .second, .val (.long q2), .second, .unset] [(.long q1)])) _
    refine XS.lconst X0.here hx rfl (hb hby d2_1) ?_
    show Steps p.tables e below (s₁.setTop (mkF m 2 #[.val (.long q1), .second, .val (.long q2), .second, .unset] [(.long (0 : Int64)), (.long q1)])) _
    refine XS.lcmp X0.here hx rfl (hb hby d2_2) rfl ?_
    show Steps p.tables e below (s₁.setTop (mkF m 3 #[.val (.long q1), .second, .val (.long q2), .second, .unset] [(.int (lcmpW q1 (0 : Int64)))])) _
    refine XS.ifYes X0.here hx rfl (pc0 := 3) (pc' := 32) rfl (hb hby d2_3) rfl ((if0 _ _).trans (tlt hc3).1) (by decide) (by decide) ?_
    show Steps p.tables e below (s₁.setTop (mkF m 32 #[.val (.long q1), .second, .val (.long q2), .second, .unset] [])) _
    refine XS.lloadN X0.here hx rfl (hb hby d2_32) rfl ?_
    show Steps p.tables e below (s₁.setTop (mkF m 33 #[.val (.long q1), .second, .val (.long q2), .second, .unset] [(.long q1)])) _
    refine XS.lconst X0.here hx rfl (hb hby d2_33) ?_
    show Steps p.tables e below (s₁.setTop (mkF m 34 #[.val (.long q1), .second, .val (.long q2), .second, .unset] [(.long (0 : Int64)), (.long q1)])) _
    refine XS.lcmp X0.here hx rfl (hb hby d2_34) rfl ?_
    show Steps p.tables e below (s₁.setTop (mkF m 35 #[.val (.long q1), .second, .val (.long q2), .second, .unset] [(.int (lcmpW q1 (0 : Int64)))])) _
    refine XS.ifNo X0.here hx rfl (hb hby d2_35) rfl ((if0 _ _).trans (tlt hc35).2.1) ?_
    show Steps p.tables e below (s₁.setTop (mkF m 38 #[.val (.long q1), .second, .val (.long q2), .second, .unset] [])) _
    refine XS.lloadN X0.here hx rfl (hb hby d2_38) rfl ?_
    show Steps p.tables e below (s₁.setTop (mkF m 39 #[.val (.long q1), .second, .val (.long q2), .second, .unset] [(.long q2)])) _
    refine XS.lconst X0.here hx rfl (hb hby d2_39) ?_
    show Steps p.tables e below (s₁.setTop (mkF m 40 #[.val (.long q1), .second, .val (.long q2), .second, .unset] [(.long (0 : Int64)), (.long q2)])) _
    refine XS.lcmp X0.here hx rfl (hb hby d2_40) rfl ?_
    show Steps p.tables e below (s₁.setTop (mkF m 41 #[.val (.long q1), .second, .val (.long q2), .second, .unset] [(.int (lcmpW q2 (0 : Int64)))])) _
    refine XS.ifNo X0.here hx rfl (hb hby d2_41) rfl ((if0 _ _).trans (tlt hc41).2.1) ?_
    show Steps p.tables e below (s₁.setTop (mkF m 44 #[.val (.long q1), .second, .val (.long q2), .second, .unset] [])) _
    refine XS.lloadN X0.here hx rfl (hb hby d2_44) rfl ?_
    show Steps p.tables e below (s₁.setTop (mkF m 45 #[.val (.long q1), .second, .val (.long q2), .second, .unset] [(.long q1)])) _
    refine X0.ldc2Long hx hown (mvT hZ (hw _ (List.mem_of_getElem? (i := 9) rfl))) (g := (mkF m 45 #[.val (.long q1), .second, .val (.long q2), .second, .unset] [(.long q1)])) rfl (hb hby d2_45) _ ?_
    show Steps p.tables e below (s₁.setTop (mkF m 48 #[.val (.long q1), .second, .val (.long q2), .second, .unset] [(.long (-9223372036854775808 : Int64)), (.long q1)])) _
    refine XS.lloadN X0.here hx rfl (hb hby d2_48) rfl ?_
    show Steps p.tables e below (s₁.setTop (mkF m 49 #[.val (.long q1), .second, .val (.long q2), .second, .unset] [(.long q2), (.long (-9223372036854775808 : Int64)), (.long q1)])) _
    refine XS.lsub X0.here hx rfl (hb hby d2_49) rfl ?_
    show Steps p.tables e below (s₁.setTop (mkF m 50 #[.val (.long q1), .second, .val (.long q2), .second, .unset] [(.long ((-9223372036854775808 : Int64) - q2)), (.long q1)])) _
    refine XS.lcmp X0.here hx rfl (hb hby d2_50) rfl ?_
    show Steps p.tables e below (s₁.setTop (mkF m 51 #[.val (.long q1), .second, .val (.long q2), .second, .unset] [(.int (lcmpW q1 ((-9223372036854775808 : Int64) - q2)))])) _
    refine XS.ifYes X0.here hx rfl (pc0 := 51) (pc' := 58) rfl (hb hby d2_51) rfl ((if0 _ _).trans (tlt hc51).1) (by decide) (by decide) ?_
    show Steps p.tables e below (s₁.setTop (mkF m 58 #[.val (.long q1), .second, .val (.long q2), .second, .unset] [])) _
    refine XS.iconst X0.here hx rfl (hb hby d2_58) ?_
    show Steps p.tables e below (s₁.setTop (mkF m 59 #[.val (.long q1), .second, .val (.long q2), .second, .unset] [(.int (0 : Int32))])) _
    refine XS.istore X0.here hx rfl (hb hby d2_59) rfl (l' := #[.val (.long q1), .second, .val (.long q2), .second, .val (.int (0 : Int32))]) rfl ?_
    show Steps p.tables e below (s₁.setTop (mkF m 61 #[.val (.long q1), .second, .val (.long q2), .second, .val (.int (0 : Int32))] [])) _
    refine XS.goto X0.here hx rfl (pc0 := 61) (pc' := 67) rfl (hb hby d2_61) (by decide) (by decide) ?_
    show Steps p.tables e below (s₁.setTop (mkF m 67 #[.val (.long q1), .second, .val (.long q2), .second, .val (.int (0 : Int32))] [])) _
    refine XS.iload X0.here hx rfl (hb hby d2_67) rfl ?_
    show Steps p.tables e below (s₁.setTop (mkF m 69 #[.val (.long q1), .second, .val (.long q2), .second, .val (.int (0 : Int32))] [(.int (0 : Int32))])) _
    exact retN X0 hx (t := .boolean) Bd.returns (by simp) (hb hby d2_69) hr
  · show QV (some (.int (0 : Int32))) h0 n0 _ s₁.heap _
    rw [e0]
    exact ⟨rfl, N0, rfl⟩
set_option maxRecDepth 65536 in
set_option maxHeartbeats 40000000 in
theorem rm2_tfff (l : Launch) (Z : State) (a0 : Array Value) (hw : ∀ d ∈ tables_1, d.before a0 Z = true) (ws : List Jvm.Cond) (q1 : Int64) (q2 : Int64) (h0 : Heap) (n0 : Nat) (Z0 : n0 ≤ h0.size) (hc3 : (lcmpW q1 (0 : Int64)) < (0 : Int32)) (hc35 : (lcmpW q1 (0 : Int64)) < (0 : Int32)) (hc41 : (lcmpW q2 (0 : Int64)) < (0 : Int32)) (hc51 : ¬ ((lcmpW q1 ((-9223372036854775808 : Int64) - q2)) < (0 : Int32))) :
    MetFree l (⟨"com/example/tab30/tab30/money/MoneyAddsWithinLongPinLaw", "expected", "(JJ)Z"⟩ : MethodName) (head1 (Jvm.Cond.code (⟨"com/example/tab30/tab30/money/MoneyAddsWithinLongPinLaw", "expected", "(JJ)Z"⟩ : MethodName) method_2_code 5 (some .boolean) :: ws) ({ frames := 0, cells := 0, slots := 0, locals := 0 } : Room)) (fun a U => a = #[(.long q1), (.long q2)] ∧ Z.Warmed39 U.vm ∧ U.heap = h0) (fun _ _ _ _ _ => True) (fun _ U o U' => ∃ v L, o = .returned v ∧ QV (some (.int (1 : Int32))) h0 n0 v U'.heap L ∧ FrameEnd U o U' L ({ frames := 0, cells := 0, slots := 0, locals := 0 } : Room).cells ({ frames := 0, cells := 0, slots := 0, locals := 0 } : Room).slots) := by
  refine MetFree.of_bodySF (plainFor_of_name pn_2) hisR ?_
  intro p e s m args below meth c s₁ Bd hml0 hP hK
  obtain ⟨rfl, hZ, hh⟩ := hP
  have hx := Bd.exec
  have hby := Bd.bytes
  have hml : c.maxLocals = 5 := hml0
  have hown : s.vm.findClass "com/example/tab30/tab30/money/MoneyAddsWithinLongPinLaw" = some m.cls := findClass_of_methodNamed Bd.named
  have hnm := (name_of_methodNamed Bd.named Bd.method).1
  have X0 : Stand p l e ({ frames := 0, cells := 0, slots := 0, locals := 0 } : Room) s m #[(.long q1), (.long q2)] below meth c s₁ [] 0 0 := Stand.of_body Bd
  have e0 : s₁.heap = h0 := by rw [← hh, Bd.state]; rfl
  have N0 := Fr.nil n0
  have pre0 : ∀ t, Steps p.tables e below (s₁.setTop (mkF m 0 #[.val (.long q1), .second, .val (.long q2), .second, .unset] [])) t → Steps p.tables e below (s₁.setTop (entryFrame m #[(.long q1), (.long q2)] 5)) t := fun t k => castTop (ef_2 m q1 q2) k

  obtain ⟨fs, hr, hrun, hended, hW, hsame⟩ := X0.leave (v := some (.int (1 : Int32))) (fun h => by rw [Bd.returns] at h; cases h)
  refine ⟨_, _, pre0 _ ?_, hrun, hended, _, _, rfl, ?_, ⟨_, rfl⟩, hW, hsame.mono (by decide) (by decide)⟩
  · show Steps p.tables e below (s₁.setTop (mkF m 0 #[.val (.long q1), .second, .val (.long q2), .second, .unset] [])) _
    refine XS.lloadN X0.here hx rfl (hb hby d2_0) rfl ?_
    show Steps p.tables e below (s₁.setTop (mkF m 1 #[.val (.long q1), .second, .val (.long q2), .second, .unset] [(.long q1)])) _
    refine XS.lconst X0.here hx rfl (hb hby d2_1) ?_
    show Steps p.tables e below (s₁.setTop (mkF m 2 #[.val (.long q1), .second, .val (.long q2), .second, .unset] [(.long (0 : Int64)), (.long q1)])) _
    refine XS.lcmp X0.here hx rfl (hb hby d2_2) rfl ?_
    show Steps p.tables e below (s₁.setTop (mkF m 3 #[.val (.long q1), .second, .val (.long q2), .second, .unset] [(.int (lcmpW q1 (0 : Int64)))])) _
    refine XS.ifYes X0.here hx rfl (pc0 := 3) (pc' := 32) rfl (hb hby d2_3) rfl ((if0 _ _).trans (tlt hc3).1) (by decide) (by decide) ?_
    show Steps p.tables e below (s₁.setTop (mkF m 32 #[.val (.long q1), .second, .val (.long q2), .second, .unset] [])) _
    refine XS.lloadN X0.here hx rfl (hb hby d2_32) rfl ?_
    show Steps p.tables e below (s₁.setTop (mkF m 33 #[.val (.long q1), .second, .val (.long q2), .second, .unset] [(.long q1)])) _
    refine XS.lconst X0.here hx rfl (hb hby d2_33) ?_
    show Steps p.tables e below (s₁.setTop (mkF m 34 #[.val (.long q1), .second, .val (.long q2), .second, .unset] [(.long (0 : Int64)), (.long q1)])) _
    refine XS.lcmp X0.here hx rfl (hb hby d2_34) rfl ?_
    show Steps p.tables e below (s₁.setTop (mkF m 35 #[.val (.long q1), .second, .val (.long q2), .second, .unset] [(.int (lcmpW q1 (0 : Int64)))])) _
    refine XS.ifNo X0.here hx rfl (hb hby d2_35) rfl ((if0 _ _).trans (tlt hc35).2.1) ?_
    show Steps p.tables e below (s₁.setTop (mkF m 38 #[.val (.long q1), .second, .val (.long q2), .second, .unset] [])) _
    refine XS.lloadN X0.here hx rfl (hb hby d2_38) rfl ?_
    show Steps p.tables e below (s₁.setTop (mkF m 39 #[.val (.long q1), .second, .val (.long q2), .second, .unset] [(.long q2)])) _
    refine XS.lconst X0.here hx rfl (hb hby d2_39) ?_
    show Steps p.tables e below (s₁.setTop (mkF m 40 #[.val (.long q1), .second, .val (.long q2), .second, .unset] [(.long (0 : Int64)), (.long q2)])) _
    refine XS.lcmp X0.here hx rfl (hb hby d2_40) rfl ?_
    show Steps p.tables e below (s₁.setTop (mkF m 41 #[.val (.long q1), .second, .val (.long q2), .second, .unset] [(.int (lcmpW q2 (0 : Int64)))])) _
    refine XS.ifNo X0.here hx rfl (hb hby d2_41) rfl ((if0 _ _).trans (tlt hc41).2.1) ?_
    show Steps p.tables e below (s₁.setTop (mkF m 44 #[.val (.long q1), .second, .val (.long q2), .second, .unset] [])) _
    refine XS.lloadN X0.here hx rfl (hb hby d2_44) rfl ?_
    show Steps p.tables e below (s₁.setTop (mkF m 45 #[.val (.long q1), .second, .val (.long q2), .second, .unset] [(.long q1)])) _
    refine X0.ldc2Long hx hown (mvT hZ (hw _ (List.mem_of_getElem? (i := 9) rfl))) (g := (mkF m 45 #[.val (.long q1), .second, .val (.long q2), .second, .unset] [(.long q1)])) rfl (hb hby d2_45) _ ?_
    show Steps p.tables e below (s₁.setTop (mkF m 48 #[.val (.long q1), .second, .val (.long q2), .second, .unset] [(.long (-9223372036854775808 : Int64)), (.long q1)])) _
    refine XS.lloadN X0.here hx rfl (hb hby d2_48) rfl ?_
    show Steps p.tables e below (s₁.setTop (mkF m 49 #[.val (.long q1), .second, .val (.long q2), .second, .unset] [(.long q2), (.long (-9223372036854775808 : Int64)), (.long q1)])) _
    refine XS.lsub X0.here hx rfl (hb hby d2_49) rfl ?_
    show Steps p.tables e below (s₁.setTop (mkF m 50 #[.val (.long q1), .second, .val (.long q2), .second, .unset] [(.long ((-9223372036854775808 : Int64) - q2)), (.long q1)])) _
    refine XS.lcmp X0.here hx rfl (hb hby d2_50) rfl ?_
    show Steps p.tables e below (s₁.setTop (mkF m 51 #[.val (.long q1), .second, .val (.long q2), .second, .unset] [(.int (lcmpW q1 ((-9223372036854775808 : Int64) - q2)))])) _
    refine XS.ifNo X0.here hx rfl (hb hby d2_51) rfl ((if0 _ _).trans (flt hc51).1) ?_
    show Steps p.tables e below (s₁.setTop (mkF m 54 #[.val (.long q1), .second, .val (.long q2), .second, .unset] [])) _
    refine XS.iconst X0.here hx rfl (hb hby d2_54) ?_
    show Steps p.tables e below (s₁.setTop (mkF m 55 #[.val (.long q1), .second, .val (.long q2), .second, .unset] [(.int (1 : Int32))])) _
    refine XS.goto X0.here hx rfl (pc0 := 55) (pc' := 59) rfl (hb hby d2_55) (by decide) (by decide) ?_
    show Steps p.tables e below (s₁.setTop (mkF m 59 #[.val (.long q1), .second, .val (.long q2), .second, .unset] [(.int (1 : Int32))])) _
    refine XS.istore X0.here hx rfl (hb hby d2_59) rfl (l' := #[.val (.long q1), .second, .val (.long q2), .second, .val (.int (1 : Int32))]) rfl ?_
    show Steps p.tables e below (s₁.setTop (mkF m 61 #[.val (.long q1), .second, .val (.long q2), .second, .val (.int (1 : Int32))] [])) _
    refine XS.goto X0.here hx rfl (pc0 := 61) (pc' := 67) rfl (hb hby d2_61) (by decide) (by decide) ?_
    show Steps p.tables e below (s₁.setTop (mkF m 67 #[.val (.long q1), .second, .val (.long q2), .second, .val (.int (1 : Int32))] [])) _
    refine XS.iload X0.here hx rfl (hb hby d2_67) rfl ?_
    show Steps p.tables e below (s₁.setTop (mkF m 69 #[.val (.long q1), .second, .val (.long q2), .second, .val (.int (1 : Int32))] [(.int (1 : Int32))])) _
    exact retN X0 hx (t := .boolean) Bd.returns (by simp) (hb hby d2_69) hr
  · show QV (some (.int (1 : Int32))) h0 n0 _ s₁.heap _
    rw [e0]
    exact ⟨rfl, N0, rfl⟩
set_option maxRecDepth 65536 in
set_option maxHeartbeats 40000000 in
theorem rm2_ftt (l : Launch) (Z : State) (a0 : Array Value) (hw : ∀ d ∈ tables_1, d.before a0 Z = true) (ws : List Jvm.Cond) (q1 : Int64) (q2 : Int64) (h0 : Heap) (n0 : Nat) (Z0 : n0 ≤ h0.size) (hc3 : ¬ ((lcmpW q1 (0 : Int64)) < (0 : Int32))) (hc9 : (lcmpW q2 (0 : Int64)) < (0 : Int32)) (hc35 : ¬ ((lcmpW q1 (0 : Int64)) < (0 : Int32))) :
    MetFree l (⟨"com/example/tab30/tab30/money/MoneyAddsWithinLongPinLaw", "expected", "(JJ)Z"⟩ : MethodName) (head1 (Jvm.Cond.code (⟨"com/example/tab30/tab30/money/MoneyAddsWithinLongPinLaw", "expected", "(JJ)Z"⟩ : MethodName) method_2_code 5 (some .boolean) :: ws) ({ frames := 0, cells := 0, slots := 0, locals := 0 } : Room)) (fun a U => a = #[(.long q1), (.long q2)] ∧ Z.Warmed39 U.vm ∧ U.heap = h0) (fun _ _ _ _ _ => True) (fun _ U o U' => ∃ v L, o = .returned v ∧ QV (some (.int (1 : Int32))) h0 n0 v U'.heap L ∧ FrameEnd U o U' L ({ frames := 0, cells := 0, slots := 0, locals := 0 } : Room).cells ({ frames := 0, cells := 0, slots := 0, locals := 0 } : Room).slots) := by
  refine MetFree.of_bodySF (plainFor_of_name pn_2) hisR ?_
  intro p e s m args below meth c s₁ Bd hml0 hP hK
  obtain ⟨rfl, hZ, hh⟩ := hP
  have hx := Bd.exec
  have hby := Bd.bytes
  have hml : c.maxLocals = 5 := hml0
  have hown : s.vm.findClass "com/example/tab30/tab30/money/MoneyAddsWithinLongPinLaw" = some m.cls := findClass_of_methodNamed Bd.named
  have hnm := (name_of_methodNamed Bd.named Bd.method).1
  have X0 : Stand p l e ({ frames := 0, cells := 0, slots := 0, locals := 0 } : Room) s m #[(.long q1), (.long q2)] below meth c s₁ [] 0 0 := Stand.of_body Bd
  have e0 : s₁.heap = h0 := by rw [← hh, Bd.state]; rfl
  have N0 := Fr.nil n0
  have pre0 : ∀ t, Steps p.tables e below (s₁.setTop (mkF m 0 #[.val (.long q1), .second, .val (.long q2), .second, .unset] [])) t → Steps p.tables e below (s₁.setTop (entryFrame m #[(.long q1), (.long q2)] 5)) t := fun t k => castTop (ef_2 m q1 q2) k

  obtain ⟨fs, hr, hrun, hended, hW, hsame⟩ := X0.leave (v := some (.int (1 : Int32))) (fun h => by rw [Bd.returns] at h; cases h)
  refine ⟨_, _, pre0 _ ?_, hrun, hended, _, _, rfl, ?_, ⟨_, rfl⟩, hW, hsame.mono (by decide) (by decide)⟩
  · show Steps p.tables e below (s₁.setTop (mkF m 0 #[.val (.long q1), .second, .val (.long q2), .second, .unset] [])) _
    refine XS.lloadN X0.here hx rfl (hb hby d2_0) rfl ?_
    show Steps p.tables e below (s₁.setTop (mkF m 1 #[.val (.long q1), .second, .val (.long q2), .second, .unset] [(.long q1)])) _
    refine XS.lconst X0.here hx rfl (hb hby d2_1) ?_
    show Steps p.tables e below (s₁.setTop (mkF m 2 #[.val (.long q1), .second, .val (.long q2), .second, .unset] [(.long (0 : Int64)), (.long q1)])) _
    refine XS.lcmp X0.here hx rfl (hb hby d2_2) rfl ?_
    show Steps p.tables e below (s₁.setTop (mkF m 3 #[.val (.long q1), .second, .val (.long q2), .second, .unset] [(.int (lcmpW q1 (0 : Int64)))])) _
    refine XS.ifNo X0.here hx rfl (hb hby d2_3) rfl ((if0 _ _).trans (flt hc3).1) ?_
    show Steps p.tables e below (s₁.setTop (mkF m 6 #[.val (.long q1), .second, .val (.long q2), .second, .unset] [])) _
    refine XS.lloadN X0.here hx rfl (hb hby d2_6) rfl ?_
    show Steps p.tables e below (s₁.setTop (mkF m 7 #[.val (.long q1), .second, .val (.long q2), .second, .unset] [(.long q2)])) _
    refine XS.lconst X0.here hx rfl (hb hby d2_7) ?_
    show Steps p.tables e below (s₁.setTop (mkF m 8 #[.val (.long q1), .second, .val (.long q2), .second, .unset] [(.long (0 : Int64)), (.long q2)])) _
    refine XS.lcmp X0.here hx rfl (hb hby d2_8) rfl ?_
    show Steps p.tables e below (s₁.setTop (mkF m 9 #[.val (.long q1), .second, .val (.long q2), .second, .unset] [(.int (lcmpW q2 (0 : Int64)))])) _
    refine XS.ifYes X0.here hx rfl (pc0 := 9) (pc' := 32) rfl (hb hby d2_9) rfl ((if0 _ _).trans (tlt hc9).1) (by decide) (by decide) ?_
    show Steps p.tables e below (s₁.setTop (mkF m 32 #[.val (.long q1), .second, .val (.long q2), .second, .unset] [])) _
    refine XS.lloadN X0.here hx rfl (hb hby d2_32) rfl ?_
    show Steps p.tables e below (s₁.setTop (mkF m 33 #[.val (.long q1), .second, .val (.long q2), .second, .unset] [(.long q1)])) _
    refine XS.lconst X0.here hx rfl (hb hby d2_33) ?_
    show Steps p.tables e below (s₁.setTop (mkF m 34 #[.val (.long q1), .second, .val (.long q2), .second, .unset] [(.long (0 : Int64)), (.long q1)])) _
    refine XS.lcmp X0.here hx rfl (hb hby d2_34) rfl ?_
    show Steps p.tables e below (s₁.setTop (mkF m 35 #[.val (.long q1), .second, .val (.long q2), .second, .unset] [(.int (lcmpW q1 (0 : Int64)))])) _
    refine XS.ifYes X0.here hx rfl (pc0 := 35) (pc' := 64) rfl (hb hby d2_35) rfl ((if0 _ _).trans (flt hc35).2.1) (by decide) (by decide) ?_
    show Steps p.tables e below (s₁.setTop (mkF m 64 #[.val (.long q1), .second, .val (.long q2), .second, .unset] [])) _
    refine XS.iconst X0.here hx rfl (hb hby d2_64) ?_
    show Steps p.tables e below (s₁.setTop (mkF m 65 #[.val (.long q1), .second, .val (.long q2), .second, .unset] [(.int (1 : Int32))])) _
    refine XS.istore X0.here hx rfl (hb hby d2_65) rfl (l' := #[.val (.long q1), .second, .val (.long q2), .second, .val (.int (1 : Int32))]) rfl ?_
    show Steps p.tables e below (s₁.setTop (mkF m 67 #[.val (.long q1), .second, .val (.long q2), .second, .val (.int (1 : Int32))] [])) _
    refine XS.iload X0.here hx rfl (hb hby d2_67) rfl ?_
    show Steps p.tables e below (s₁.setTop (mkF m 69 #[.val (.long q1), .second, .val (.long q2), .second, .val (.int (1 : Int32))] [(.int (1 : Int32))])) _
    exact retN X0 hx (t := .boolean) Bd.returns (by simp) (hb hby d2_69) hr
  · show QV (some (.int (1 : Int32))) h0 n0 _ s₁.heap _
    rw [e0]
    exact ⟨rfl, N0, rfl⟩
set_option maxRecDepth 65536 in
set_option maxHeartbeats 40000000 in
theorem rm2_ftft (l : Launch) (Z : State) (a0 : Array Value) (hw : ∀ d ∈ tables_1, d.before a0 Z = true) (ws : List Jvm.Cond) (q1 : Int64) (q2 : Int64) (h0 : Heap) (n0 : Nat) (Z0 : n0 ≤ h0.size) (hc3 : ¬ ((lcmpW q1 (0 : Int64)) < (0 : Int32))) (hc9 : (lcmpW q2 (0 : Int64)) < (0 : Int32)) (hc35 : (lcmpW q1 (0 : Int64)) < (0 : Int32)) (hc41 : ¬ ((lcmpW q2 (0 : Int64)) < (0 : Int32))) :
    MetFree l (⟨"com/example/tab30/tab30/money/MoneyAddsWithinLongPinLaw", "expected", "(JJ)Z"⟩ : MethodName) (head1 (Jvm.Cond.code (⟨"com/example/tab30/tab30/money/MoneyAddsWithinLongPinLaw", "expected", "(JJ)Z"⟩ : MethodName) method_2_code 5 (some .boolean) :: ws) ({ frames := 0, cells := 0, slots := 0, locals := 0 } : Room)) (fun a U => a = #[(.long q1), (.long q2)] ∧ Z.Warmed39 U.vm ∧ U.heap = h0) (fun _ _ _ _ _ => True) (fun _ U o U' => ∃ v L, o = .returned v ∧ QV (some (.int (1 : Int32))) h0 n0 v U'.heap L ∧ FrameEnd U o U' L ({ frames := 0, cells := 0, slots := 0, locals := 0 } : Room).cells ({ frames := 0, cells := 0, slots := 0, locals := 0 } : Room).slots) := by
  refine MetFree.of_bodySF (plainFor_of_name pn_2) hisR ?_
  intro p e s m args below meth c s₁ Bd hml0 hP hK
  obtain ⟨rfl, hZ, hh⟩ := hP
  have hx := Bd.exec
  have hby := Bd.bytes
  have hml : c.maxLocals = 5 := hml0
  have hown : s.vm.findClass "com/example/tab30/tab30/money/MoneyAddsWithinLongPinLaw" = some m.cls := findClass_of_methodNamed Bd.named
  have hnm := (name_of_methodNamed Bd.named Bd.method).1
  have X0 : Stand p l e ({ frames := 0, cells := 0, slots := 0, locals := 0 } : Room) s m #[(.long q1), (.long q2)] below meth c s₁ [] 0 0 := Stand.of_body Bd
  have e0 : s₁.heap = h0 := by rw [← hh, Bd.state]; rfl
  have N0 := Fr.nil n0
  have pre0 : ∀ t, Steps p.tables e below (s₁.setTop (mkF m 0 #[.val (.long q1), .second, .val (.long q2), .second, .unset] [])) t → Steps p.tables e below (s₁.setTop (entryFrame m #[(.long q1), (.long q2)] 5)) t := fun t k => castTop (ef_2 m q1 q2) k

  obtain ⟨fs, hr, hrun, hended, hW, hsame⟩ := X0.leave (v := some (.int (1 : Int32))) (fun h => by rw [Bd.returns] at h; cases h)
  refine ⟨_, _, pre0 _ ?_, hrun, hended, _, _, rfl, ?_, ⟨_, rfl⟩, hW, hsame.mono (by decide) (by decide)⟩
  · show Steps p.tables e below (s₁.setTop (mkF m 0 #[.val (.long q1), .second, .val (.long q2), .second, .unset] [])) _
    refine XS.lloadN X0.here hx rfl (hb hby d2_0) rfl ?_
    show Steps p.tables e below (s₁.setTop (mkF m 1 #[.val (.long q1), .second, .val (.long q2), .second, .unset] [(.long q1)])) _
    refine XS.lconst X0.here hx rfl (hb hby d2_1) ?_
    show Steps p.tables e below (s₁.setTop (mkF m 2 #[.val (.long q1), .second, .val (.long q2), .second, .unset] [(.long (0 : Int64)), (.long q1)])) _
    refine XS.lcmp X0.here hx rfl (hb hby d2_2) rfl ?_
    show Steps p.tables e below (s₁.setTop (mkF m 3 #[.val (.long q1), .second, .val (.long q2), .second, .unset] [(.int (lcmpW q1 (0 : Int64)))])) _
    refine XS.ifNo X0.here hx rfl (hb hby d2_3) rfl ((if0 _ _).trans (flt hc3).1) ?_
    show Steps p.tables e below (s₁.setTop (mkF m 6 #[.val (.long q1), .second, .val (.long q2), .second, .unset] [])) _
    refine XS.lloadN X0.here hx rfl (hb hby d2_6) rfl ?_
    show Steps p.tables e below (s₁.setTop (mkF m 7 #[.val (.long q1), .second, .val (.long q2), .second, .unset] [(.long q2)])) _
    refine XS.lconst X0.here hx rfl (hb hby d2_7) ?_
    show Steps p.tables e below (s₁.setTop (mkF m 8 #[.val (.long q1), .second, .val (.long q2), .second, .unset] [(.long (0 : Int64)), (.long q2)])) _
    refine XS.lcmp X0.here hx rfl (hb hby d2_8) rfl ?_
    show Steps p.tables e below (s₁.setTop (mkF m 9 #[.val (.long q1), .second, .val (.long q2), .second, .unset] [(.int (lcmpW q2 (0 : Int64)))])) _
    refine XS.ifYes X0.here hx rfl (pc0 := 9) (pc' := 32) rfl (hb hby d2_9) rfl ((if0 _ _).trans (tlt hc9).1) (by decide) (by decide) ?_
    show Steps p.tables e below (s₁.setTop (mkF m 32 #[.val (.long q1), .second, .val (.long q2), .second, .unset] [])) _
    refine XS.lloadN X0.here hx rfl (hb hby d2_32) rfl ?_
    show Steps p.tables e below (s₁.setTop (mkF m 33 #[.val (.long q1), .second, .val (.long q2), .second, .unset] [(.long q1)])) _
    refine XS.lconst X0.here hx rfl (hb hby d2_33) ?_
    show Steps p.tables e below (s₁.setTop (mkF m 34 #[.val (.long q1), .second, .val (.long q2), .second, .unset] [(.long (0 : Int64)), (.long q1)])) _
    refine XS.lcmp X0.here hx rfl (hb hby d2_34) rfl ?_
    show Steps p.tables e below (s₁.setTop (mkF m 35 #[.val (.long q1), .second, .val (.long q2), .second, .unset] [(.int (lcmpW q1 (0 : Int64)))])) _
    refine XS.ifNo X0.here hx rfl (hb hby d2_35) rfl ((if0 _ _).trans (tlt hc35).2.1) ?_
    show Steps p.tables e below (s₁.setTop (mkF m 38 #[.val (.long q1), .second, .val (.long q2), .second, .unset] [])) _
    refine XS.lloadN X0.here hx rfl (hb hby d2_38) rfl ?_
    show Steps p.tables e below (s₁.setTop (mkF m 39 #[.val (.long q1), .second, .val (.long q2), .second, .unset] [(.long q2)])) _
    refine XS.lconst X0.here hx rfl (hb hby d2_39) ?_
    show Steps p.tables e below (s₁.setTop (mkF m 40 #[.val (.long q1), .second, .val (.long q2), .second, .unset] [(.long (0 : Int64)), (.long q2)])) _
    refine XS.lcmp X0.here hx rfl (hb hby d2_40) rfl ?_
    show Steps p.tables e below (s₁.setTop (mkF m 41 #[.val (.long q1), .second, .val (.long q2), .second, .unset] [(.int (lcmpW q2 (0 : Int64)))])) _
    refine XS.ifYes X0.here hx rfl (pc0 := 41) (pc' := 64) rfl (hb hby d2_41) rfl ((if0 _ _).trans (flt hc41).2.1) (by decide) (by decide) ?_
    show Steps p.tables e below (s₁.setTop (mkF m 64 #[.val (.long q1), .second, .val (.long q2), .second, .unset] [])) _
    refine XS.iconst X0.here hx rfl (hb hby d2_64) ?_
    show Steps p.tables e below (s₁.setTop (mkF m 65 #[.val (.long q1), .second, .val (.long q2), .second, .unset] [(.int (1 : Int32))])) _
    refine XS.istore X0.here hx rfl (hb hby d2_65) rfl (l' := #[.val (.long q1), .second, .val (.long q2), .second, .val (.int (1 : Int32))]) rfl ?_
    show Steps p.tables e below (s₁.setTop (mkF m 67 #[.val (.long q1), .second, .val (.long q2), .second, .val (.int (1 : Int32))] [])) _
    refine XS.iload X0.here hx rfl (hb hby d2_67) rfl ?_
    show Steps p.tables e below (s₁.setTop (mkF m 69 #[.val (.long q1), .second, .val (.long q2), .second, .val (.int (1 : Int32))] [(.int (1 : Int32))])) _
    exact retN X0 hx (t := .boolean) Bd.returns (by simp) (hb hby d2_69) hr
  · show QV (some (.int (1 : Int32))) h0 n0 _ s₁.heap _
    rw [e0]
    exact ⟨rfl, N0, rfl⟩
set_option maxRecDepth 65536 in
set_option maxHeartbeats 40000000 in
theorem rm2_ftfft (l : Launch) (Z : State) (a0 : Array Value) (hw : ∀ d ∈ tables_1, d.before a0 Z = true) (ws : List Jvm.Cond) (q1 : Int64) (q2 : Int64) (h0 : Heap) (n0 : Nat) (Z0 : n0 ≤ h0.size) (hc3 : ¬ ((lcmpW q1 (0 : Int64)) < (0 : Int32))) (hc9 : (lcmpW q2 (0 : Int64)) < (0 : Int32)) (hc35 : (lcmpW q1 (0 : Int64)) < (0 : Int32)) (hc41 : (lcmpW q2 (0 : Int64)) < (0 : Int32)) (hc51 : (lcmpW q1 ((-9223372036854775808 : Int64) - q2)) < (0 : Int32)) :
    MetFree l (⟨"com/example/tab30/tab30/money/MoneyAddsWithinLongPinLaw", "expected", "(JJ)Z"⟩ : MethodName) (head1 (Jvm.Cond.code (⟨"com/example/tab30/tab30/money/MoneyAddsWithinLongPinLaw", "expected", "(JJ)Z"⟩ : MethodName) method_2_code 5 (some .boolean) :: ws) ({ frames := 0, cells := 0, slots := 0, locals := 0 } : Room)) (fun a U => a = #[(.long q1), (.long q2)] ∧ Z.Warmed39 U.vm ∧ U.heap = h0) (fun _ _ _ _ _ => True) (fun _ U o U' => ∃ v L, o = .returned v ∧ QV (some (.int (0 : Int32))) h0 n0 v U'.heap L ∧ FrameEnd U o U' L ({ frames := 0, cells := 0, slots := 0, locals := 0 } : Room).cells ({ frames := 0, cells := 0, slots := 0, locals := 0 } : Room).slots) := by
  refine MetFree.of_bodySF (plainFor_of_name pn_2) hisR ?_
  intro p e s m args below meth c s₁ Bd hml0 hP hK
  obtain ⟨rfl, hZ, hh⟩ := hP
  have hx := Bd.exec
  have hby := Bd.bytes
  have hml : c.maxLocals = 5 := hml0
  have hown : s.vm.findClass "com/example/tab30/tab30/money/MoneyAddsWithinLongPinLaw" = some m.cls := findClass_of_methodNamed Bd.named
  have hnm := (name_of_methodNamed Bd.named Bd.method).1
  have X0 : Stand p l e ({ frames := 0, cells := 0, slots := 0, locals := 0 } : Room) s m #[(.long q1), (.long q2)] below meth c s₁ [] 0 0 := Stand.of_body Bd
  have e0 : s₁.heap = h0 := by rw [← hh, Bd.state]; rfl
  have N0 := Fr.nil n0
  have pre0 : ∀ t, Steps p.tables e below (s₁.setTop (mkF m 0 #[.val (.long q1), .second, .val (.long q2), .second, .unset] [])) t → Steps p.tables e below (s₁.setTop (entryFrame m #[(.long q1), (.long q2)] 5)) t := fun t k => castTop (ef_2 m q1 q2) k

  obtain ⟨fs, hr, hrun, hended, hW, hsame⟩ := X0.leave (v := some (.int (0 : Int32))) (fun h => by rw [Bd.returns] at h; cases h)
  refine ⟨_, _, pre0 _ ?_, hrun, hended, _, _, rfl, ?_, ⟨_, rfl⟩, hW, hsame.mono (by decide) (by decide)⟩
  · show Steps p.tables e below (s₁.setTop (mkF m 0 #[.val (.long q1), .second, .val (.long q2), .second, .unset] [])) _
    refine XS.lloadN X0.here hx rfl (hb hby d2_0) rfl ?_
    show Steps p.tables e below (s₁.setTop (mkF m 1 #[.val (.long q1), .second, .val (.long q2), .second, .unset] [(.long q1)])) _
    refine XS.lconst X0.here hx rfl (hb hby d2_1) ?_
    show Steps p.tables e below (s₁.setTop (mkF m 2 #[.val (.long q1), .second, .val (.long q2), .second, .unset] [(.long (0 : Int64)), (.long q1)])) _
    refine XS.lcmp X0.here hx rfl (hb hby d2_2) rfl ?_
    show Steps p.tables e below (s₁.setTop (mkF m 3 #[.val (.long q1), .second, .val (.long q2), .second, .unset] [(.int (lcmpW q1 (0 : Int64)))])) _
    refine XS.ifNo X0.here hx rfl (hb hby d2_3) rfl ((if0 _ _).trans (flt hc3).1) ?_
    show Steps p.tables e below (s₁.setTop (mkF m 6 #[.val (.long q1), .second, .val (.long q2), .second, .unset] [])) _
    refine XS.lloadN X0.here hx rfl (hb hby d2_6) rfl ?_
    show Steps p.tables e below (s₁.setTop (mkF m 7 #[.val (.long q1), .second, .val (.long q2), .second, .unset] [(.long q2)])) _
    refine XS.lconst X0.here hx rfl (hb hby d2_7) ?_
    show Steps p.tables e below (s₁.setTop (mkF m 8 #[.val (.long q1), .second, .val (.long q2), .second, .unset] [(.long (0 : Int64)), (.long q2)])) _
    refine XS.lcmp X0.here hx rfl (hb hby d2_8) rfl ?_
    show Steps p.tables e below (s₁.setTop (mkF m 9 #[.val (.long q1), .second, .val (.long q2), .second, .unset] [(.int (lcmpW q2 (0 : Int64)))])) _
    refine XS.ifYes X0.here hx rfl (pc0 := 9) (pc' := 32) rfl (hb hby d2_9) rfl ((if0 _ _).trans (tlt hc9).1) (by decide) (by decide) ?_
    show Steps p.tables e below (s₁.setTop (mkF m 32 #[.val (.long q1), .second, .val (.long q2), .second, .unset] [])) _
    refine XS.lloadN X0.here hx rfl (hb hby d2_32) rfl ?_
    show Steps p.tables e below (s₁.setTop (mkF m 33 #[.val (.long q1), .second, .val (.long q2), .second, .unset] [(.long q1)])) _
    refine XS.lconst X0.here hx rfl (hb hby d2_33) ?_
    show Steps p.tables e below (s₁.setTop (mkF m 34 #[.val (.long q1), .second, .val (.long q2), .second, .unset] [(.long (0 : Int64)), (.long q1)])) _
    refine XS.lcmp X0.here hx rfl (hb hby d2_34) rfl ?_
    show Steps p.tables e below (s₁.setTop (mkF m 35 #[.val (.long q1), .second, .val (.long q2), .second, .unset] [(.int (lcmpW q1 (0 : Int64)))])) _
    refine XS.ifNo X0.here hx rfl (hb hby d2_35) rfl ((if0 _ _).trans (tlt hc35).2.1) ?_
    show Steps p.tables e below (s₁.setTop (mkF m 38 #[.val (.long q1), .second, .val (.long q2), .second, .unset] [])) _
    refine XS.lloadN X0.here hx rfl (hb hby d2_38) rfl ?_
    show Steps p.tables e below (s₁.setTop (mkF m 39 #[.val (.long q1), .second, .val (.long q2), .second, .unset] [(.long q2)])) _
    refine XS.lconst X0.here hx rfl (hb hby d2_39) ?_
    show Steps p.tables e below (s₁.setTop (mkF m 40 #[.val (.long q1), .second, .val (.long q2), .second, .unset] [(.long (0 : Int64)), (.long q2)])) _
    refine XS.lcmp X0.here hx rfl (hb hby d2_40) rfl ?_
    show Steps p.tables e below (s₁.setTop (mkF m 41 #[.val (.long q1), .second, .val (.long q2), .second, .unset] [(.int (lcmpW q2 (0 : Int64)))])) _
    refine XS.ifNo X0.here hx rfl (hb hby d2_41) rfl ((if0 _ _).trans (tlt hc41).2.1) ?_
    show Steps p.tables e below (s₁.setTop (mkF m 44 #[.val (.long q1), .second, .val (.long q2), .second, .unset] [])) _
    refine XS.lloadN X0.here hx rfl (hb hby d2_44) rfl ?_
    show Steps p.tables e below (s₁.setTop (mkF m 45 #[.val (.long q1), .second, .val (.long q2), .second, .unset] [(.long q1)])) _
    refine X0.ldc2Long hx hown (mvT hZ (hw _ (List.mem_of_getElem? (i := 9) rfl))) (g := (mkF m 45 #[.val (.long q1), .second, .val (.long q2), .second, .unset] [(.long q1)])) rfl (hb hby d2_45) _ ?_
    show Steps p.tables e below (s₁.setTop (mkF m 48 #[.val (.long q1), .second, .val (.long q2), .second, .unset] [(.long (-9223372036854775808 : Int64)), (.long q1)])) _
    refine XS.lloadN X0.here hx rfl (hb hby d2_48) rfl ?_
    show Steps p.tables e below (s₁.setTop (mkF m 49 #[.val (.long q1), .second, .val (.long q2), .second, .unset] [(.long q2), (.long (-9223372036854775808 : Int64)), (.long q1)])) _
    refine XS.lsub X0.here hx rfl (hb hby d2_49) rfl ?_
    show Steps p.tables e below (s₁.setTop (mkF m 50 #[.val (.long q1), .second, .val (.long q2), .second, .unset] [(.long ((-9223372036854775808 : Int64) - q2)), (.long q1)])) _
    refine XS.lcmp X0.here hx rfl (hb hby d2_50) rfl ?_
    show Steps p.tables e below (s₁.setTop (mkF m 51 #[.val (.long q1), .second, .val (.long q2), .second, .unset] [(.int (lcmpW q1 ((-9223372036854775808 : Int64) - q2)))])) _
    refine XS.ifYes X0.here hx rfl (pc0 := 51) (pc' := 58) rfl (hb hby d2_51) rfl ((if0 _ _).trans (tlt hc51).1) (by decide) (by decide) ?_
    show Steps p.tables e below (s₁.setTop (mkF m 58 #[.val (.long q1), .second, .val (.long q2), .second, .unset] [])) _
    refine XS.iconst X0.here hx rfl (hb hby d2_58) ?_
    show Steps p.tables e below (s₁.setTop (mkF m 59 #[.val (.long q1), .second, .val (.long q2), .second, .unset] [(.int (0 : Int32))])) _
    refine XS.istore X0.here hx rfl (hb hby d2_59) rfl (l' := #[.val (.long q1), .second, .val (.long q2), .second, .val (.int (0 : Int32))]) rfl ?_
    show Steps p.tables e below (s₁.setTop (mkF m 61 #[.val (.long q1), .second, .val (.long q2), .second, .val (.int (0 : Int32))] [])) _
    refine XS.goto X0.here hx rfl (pc0 := 61) (pc' := 67) rfl (hb hby d2_61) (by decide) (by decide) ?_
    show Steps p.tables e below (s₁.setTop (mkF m 67 #[.val (.long q1), .second, .val (.long q2), .second, .val (.int (0 : Int32))] [])) _
    refine XS.iload X0.here hx rfl (hb hby d2_67) rfl ?_
    show Steps p.tables e below (s₁.setTop (mkF m 69 #[.val (.long q1), .second, .val (.long q2), .second, .val (.int (0 : Int32))] [(.int (0 : Int32))])) _
    exact retN X0 hx (t := .boolean) Bd.returns (by simp) (hb hby d2_69) hr
  · show QV (some (.int (0 : Int32))) h0 n0 _ s₁.heap _
    rw [e0]
    exact ⟨rfl, N0, rfl⟩
set_option maxRecDepth 65536 in
set_option maxHeartbeats 40000000 in
theorem rm2_ftfff (l : Launch) (Z : State) (a0 : Array Value) (hw : ∀ d ∈ tables_1, d.before a0 Z = true) (ws : List Jvm.Cond) (q1 : Int64) (q2 : Int64) (h0 : Heap) (n0 : Nat) (Z0 : n0 ≤ h0.size) (hc3 : ¬ ((lcmpW q1 (0 : Int64)) < (0 : Int32))) (hc9 : (lcmpW q2 (0 : Int64)) < (0 : Int32)) (hc35 : (lcmpW q1 (0 : Int64)) < (0 : Int32)) (hc41 : (lcmpW q2 (0 : Int64)) < (0 : Int32)) (hc51 : ¬ ((lcmpW q1 ((-9223372036854775808 : Int64) - q2)) < (0 : Int32))) :
    MetFree l (⟨"com/example/tab30/tab30/money/MoneyAddsWithinLongPinLaw", "expected", "(JJ)Z"⟩ : MethodName) (head1 (Jvm.Cond.code (⟨"com/example/tab30/tab30/money/MoneyAddsWithinLongPinLaw", "expected", "(JJ)Z"⟩ : MethodName) method_2_code 5 (some .boolean) :: ws) ({ frames := 0, cells := 0, slots := 0, locals := 0 } : Room)) (fun a U => a = #[(.long q1), (.long q2)] ∧ Z.Warmed39 U.vm ∧ U.heap = h0) (fun _ _ _ _ _ => True) (fun _ U o U' => ∃ v L, o = .returned v ∧ QV (some (.int (1 : Int32))) h0 n0 v U'.heap L ∧ FrameEnd U o U' L ({ frames := 0, cells := 0, slots := 0, locals := 0 } : Room).cells ({ frames := 0, cells := 0, slots := 0, locals := 0 } : Room).slots) := by
  refine MetFree.of_bodySF (plainFor_of_name pn_2) hisR ?_
  intro p e s m args below meth c s₁ Bd hml0 hP hK
  obtain ⟨rfl, hZ, hh⟩ := hP
  have hx := Bd.exec
  have hby := Bd.bytes
  have hml : c.maxLocals = 5 := hml0
  have hown : s.vm.findClass "com/example/tab30/tab30/money/MoneyAddsWithinLongPinLaw" = some m.cls := findClass_of_methodNamed Bd.named
  have hnm := (name_of_methodNamed Bd.named Bd.method).1
  have X0 : Stand p l e ({ frames := 0, cells := 0, slots := 0, locals := 0 } : Room) s m #[(.long q1), (.long q2)] below meth c s₁ [] 0 0 := Stand.of_body Bd
  have e0 : s₁.heap = h0 := by rw [← hh, Bd.state]; rfl
  have N0 := Fr.nil n0
  have pre0 : ∀ t, Steps p.tables e below (s₁.setTop (mkF m 0 #[.val (.long q1), .second, .val (.long q2), .second, .unset] [])) t → Steps p.tables e below (s₁.setTop (entryFrame m #[(.long q1), (.long q2)] 5)) t := fun t k => castTop (ef_2 m q1 q2) k

  obtain ⟨fs, hr, hrun, hended, hW, hsame⟩ := X0.leave (v := some (.int (1 : Int32))) (fun h => by rw [Bd.returns] at h; cases h)
  refine ⟨_, _, pre0 _ ?_, hrun, hended, _, _, rfl, ?_, ⟨_, rfl⟩, hW, hsame.mono (by decide) (by decide)⟩
  · show Steps p.tables e below (s₁.setTop (mkF m 0 #[.val (.long q1), .second, .val (.long q2), .second, .unset] [])) _
    refine XS.lloadN X0.here hx rfl (hb hby d2_0) rfl ?_
    show Steps p.tables e below (s₁.setTop (mkF m 1 #[.val (.long q1), .second, .val (.long q2), .second, .unset] [(.long q1)])) _
    refine XS.lconst X0.here hx rfl (hb hby d2_1) ?_
    show Steps p.tables e below (s₁.setTop (mkF m 2 #[.val (.long q1), .second, .val (.long q2), .second, .unset] [(.long (0 : Int64)), (.long q1)])) _
    refine XS.lcmp X0.here hx rfl (hb hby d2_2) rfl ?_
    show Steps p.tables e below (s₁.setTop (mkF m 3 #[.val (.long q1), .second, .val (.long q2), .second, .unset] [(.int (lcmpW q1 (0 : Int64)))])) _
    refine XS.ifNo X0.here hx rfl (hb hby d2_3) rfl ((if0 _ _).trans (flt hc3).1) ?_
    show Steps p.tables e below (s₁.setTop (mkF m 6 #[.val (.long q1), .second, .val (.long q2), .second, .unset] [])) _
    refine XS.lloadN X0.here hx rfl (hb hby d2_6) rfl ?_
    show Steps p.tables e below (s₁.setTop (mkF m 7 #[.val (.long q1), .second, .val (.long q2), .second, .unset] [(.long q2)])) _
    refine XS.lconst X0.here hx rfl (hb hby d2_7) ?_
    show Steps p.tables e below (s₁.setTop (mkF m 8 #[.val (.long q1), .second, .val (.long q2), .second, .unset] [(.long (0 : Int64)), (.long q2)])) _
    refine XS.lcmp X0.here hx rfl (hb hby d2_8) rfl ?_
    show Steps p.tables e below (s₁.setTop (mkF m 9 #[.val (.long q1), .second, .val (.long q2), .second, .unset] [(.int (lcmpW q2 (0 : Int64)))])) _
    refine XS.ifYes X0.here hx rfl (pc0 := 9) (pc' := 32) rfl (hb hby d2_9) rfl ((if0 _ _).trans (tlt hc9).1) (by decide) (by decide) ?_
    show Steps p.tables e below (s₁.setTop (mkF m 32 #[.val (.long q1), .second, .val (.long q2), .second, .unset] [])) _
    refine XS.lloadN X0.here hx rfl (hb hby d2_32) rfl ?_
    show Steps p.tables e below (s₁.setTop (mkF m 33 #[.val (.long q1), .second, .val (.long q2), .second, .unset] [(.long q1)])) _
    refine XS.lconst X0.here hx rfl (hb hby d2_33) ?_
    show Steps p.tables e below (s₁.setTop (mkF m 34 #[.val (.long q1), .second, .val (.long q2), .second, .unset] [(.long (0 : Int64)), (.long q1)])) _
    refine XS.lcmp X0.here hx rfl (hb hby d2_34) rfl ?_
    show Steps p.tables e below (s₁.setTop (mkF m 35 #[.val (.long q1), .second, .val (.long q2), .second, .unset] [(.int (lcmpW q1 (0 : Int64)))])) _
    refine XS.ifNo X0.here hx rfl (hb hby d2_35) rfl ((if0 _ _).trans (tlt hc35).2.1) ?_
    show Steps p.tables e below (s₁.setTop (mkF m 38 #[.val (.long q1), .second, .val (.long q2), .second, .unset] [])) _
    refine XS.lloadN X0.here hx rfl (hb hby d2_38) rfl ?_
    show Steps p.tables e below (s₁.setTop (mkF m 39 #[.val (.long q1), .second, .val (.long q2), .second, .unset] [(.long q2)])) _
    refine XS.lconst X0.here hx rfl (hb hby d2_39) ?_
    show Steps p.tables e below (s₁.setTop (mkF m 40 #[.val (.long q1), .second, .val (.long q2), .second, .unset] [(.long (0 : Int64)), (.long q2)])) _
    refine XS.lcmp X0.here hx rfl (hb hby d2_40) rfl ?_
    show Steps p.tables e below (s₁.setTop (mkF m 41 #[.val (.long q1), .second, .val (.long q2), .second, .unset] [(.int (lcmpW q2 (0 : Int64)))])) _
    refine XS.ifNo X0.here hx rfl (hb hby d2_41) rfl ((if0 _ _).trans (tlt hc41).2.1) ?_
    show Steps p.tables e below (s₁.setTop (mkF m 44 #[.val (.long q1), .second, .val (.long q2), .second, .unset] [])) _
    refine XS.lloadN X0.here hx rfl (hb hby d2_44) rfl ?_
    show Steps p.tables e below (s₁.setTop (mkF m 45 #[.val (.long q1), .second, .val (.long q2), .second, .unset] [(.long q1)])) _
    refine X0.ldc2Long hx hown (mvT hZ (hw _ (List.mem_of_getElem? (i := 9) rfl))) (g := (mkF m 45 #[.val (.long q1), .second, .val (.long q2), .second, .unset] [(.long q1)])) rfl (hb hby d2_45) _ ?_
    show Steps p.tables e below (s₁.setTop (mkF m 48 #[.val (.long q1), .second, .val (.long q2), .second, .unset] [(.long (-9223372036854775808 : Int64)), (.long q1)])) _
    refine XS.lloadN X0.here hx rfl (hb hby d2_48) rfl ?_
    show Steps p.tables e below (s₁.setTop (mkF m 49 #[.val (.long q1), .second, .val (.long q2), .second, .unset] [(.long q2), (.long (-9223372036854775808 : Int64)), (.long q1)])) _
    refine XS.lsub X0.here hx rfl (hb hby d2_49) rfl ?_
    show Steps p.tables e below (s₁.setTop (mkF m 50 #[.val (.long q1), .second, .val (.long q2), .second, .unset] [(.long ((-9223372036854775808 : Int64) - q2)), (.long q1)])) _
    refine XS.lcmp X0.here hx rfl (hb hby d2_50) rfl ?_
    show Steps p.tables e below (s₁.setTop (mkF m 51 #[.val (.long q1), .second, .val (.long q2), .second, .unset] [(.int (lcmpW q1 ((-9223372036854775808 : Int64) - q2)))])) _
    refine XS.ifNo X0.here hx rfl (hb hby d2_51) rfl ((if0 _ _).trans (flt hc51).1) ?_
    show Steps p.tables e below (s₁.setTop (mkF m 54 #[.val (.long q1), .second, .val (.long q2), .second, .unset] [])) _
    refine XS.iconst X0.here hx rfl (hb hby d2_54) ?_
    show Steps p.tables e below (s₁.setTop (mkF m 55 #[.val (.long q1), .second, .val (.long q2), .second, .unset] [(.int (1 : Int32))])) _
    refine XS.goto X0.here hx rfl (pc0 := 55) (pc' := 59) rfl (hb hby d2_55) (by decide) (by decide) ?_
    show Steps p.tables e below (s₁.setTop (mkF m 59 #[.val (.long q1), .second, .val (.long q2), .second, .unset] [(.int (1 : Int32))])) _
    refine XS.istore X0.here hx rfl (hb hby d2_59) rfl (l' := #[.val (.long q1), .second, .val (.long q2), .second, .val (.int (1 : Int32))]) rfl ?_
    show Steps p.tables e below (s₁.setTop (mkF m 61 #[.val (.long q1), .second, .val (.long q2), .second, .val (.int (1 : Int32))] [])) _
    refine XS.goto X0.here hx rfl (pc0 := 61) (pc' := 67) rfl (hb hby d2_61) (by decide) (by decide) ?_
    show Steps p.tables e below (s₁.setTop (mkF m 67 #[.val (.long q1), .second, .val (.long q2), .second, .val (.int (1 : Int32))] [])) _
    refine XS.iload X0.here hx rfl (hb hby d2_67) rfl ?_
    show Steps p.tables e below (s₁.setTop (mkF m 69 #[.val (.long q1), .second, .val (.long q2), .second, .val (.int (1 : Int32))] [(.int (1 : Int32))])) _
    exact retN X0 hx (t := .boolean) Bd.returns (by simp) (hb hby d2_69) hr
  · show QV (some (.int (1 : Int32))) h0 n0 _ s₁.heap _
    rw [e0]
    exact ⟨rfl, N0, rfl⟩
set_option maxRecDepth 65536 in
set_option maxHeartbeats 40000000 in
theorem rm2_fft (l : Launch) (Z : State) (a0 : Array Value) (hw : ∀ d ∈ tables_1, d.before a0 Z = true) (ws : List Jvm.Cond) (q1 : Int64) (q2 : Int64) (h0 : Heap) (n0 : Nat) (Z0 : n0 ≤ h0.size) (hc3 : ¬ ((lcmpW q1 (0 : Int64)) < (0 : Int32))) (hc9 : ¬ ((lcmpW q2 (0 : Int64)) < (0 : Int32))) (hc19 : (0 : Int32) < (lcmpW q1 ((9223372036854775807 : Int64) - q2))) :
    MetFree l (⟨"com/example/tab30/tab30/money/MoneyAddsWithinLongPinLaw", "expected", "(JJ)Z"⟩ : MethodName) (head1 (Jvm.Cond.code (⟨"com/example/tab30/tab30/money/MoneyAddsWithinLongPinLaw", "expected", "(JJ)Z"⟩ : MethodName) method_2_code 5 (some .boolean) :: ws) ({ frames := 0, cells := 0, slots := 0, locals := 0 } : Room)) (fun a U => a = #[(.long q1), (.long q2)] ∧ Z.Warmed39 U.vm ∧ U.heap = h0) (fun _ _ _ _ _ => True) (fun _ U o U' => ∃ v L, o = .returned v ∧ QV (some (.int (0 : Int32))) h0 n0 v U'.heap L ∧ FrameEnd U o U' L ({ frames := 0, cells := 0, slots := 0, locals := 0 } : Room).cells ({ frames := 0, cells := 0, slots := 0, locals := 0 } : Room).slots) := by
  refine MetFree.of_bodySF (plainFor_of_name pn_2) hisR ?_
  intro p e s m args below meth c s₁ Bd hml0 hP hK
  obtain ⟨rfl, hZ, hh⟩ := hP
  have hx := Bd.exec
  have hby := Bd.bytes
  have hml : c.maxLocals = 5 := hml0
  have hown : s.vm.findClass "com/example/tab30/tab30/money/MoneyAddsWithinLongPinLaw" = some m.cls := findClass_of_methodNamed Bd.named
  have hnm := (name_of_methodNamed Bd.named Bd.method).1
  have X0 : Stand p l e ({ frames := 0, cells := 0, slots := 0, locals := 0 } : Room) s m #[(.long q1), (.long q2)] below meth c s₁ [] 0 0 := Stand.of_body Bd
  have e0 : s₁.heap = h0 := by rw [← hh, Bd.state]; rfl
  have N0 := Fr.nil n0
  have pre0 : ∀ t, Steps p.tables e below (s₁.setTop (mkF m 0 #[.val (.long q1), .second, .val (.long q2), .second, .unset] [])) t → Steps p.tables e below (s₁.setTop (entryFrame m #[(.long q1), (.long q2)] 5)) t := fun t k => castTop (ef_2 m q1 q2) k

  obtain ⟨fs, hr, hrun, hended, hW, hsame⟩ := X0.leave (v := some (.int (0 : Int32))) (fun h => by rw [Bd.returns] at h; cases h)
  refine ⟨_, _, pre0 _ ?_, hrun, hended, _, _, rfl, ?_, ⟨_, rfl⟩, hW, hsame.mono (by decide) (by decide)⟩
  · show Steps p.tables e below (s₁.setTop (mkF m 0 #[.val (.long q1), .second, .val (.long q2), .second, .unset] [])) _
    refine XS.lloadN X0.here hx rfl (hb hby d2_0) rfl ?_
    show Steps p.tables e below (s₁.setTop (mkF m 1 #[.val (.long q1), .second, .val (.long q2), .second, .unset] [(.long q1)])) _
    refine XS.lconst X0.here hx rfl (hb hby d2_1) ?_
    show Steps p.tables e below (s₁.setTop (mkF m 2 #[.val (.long q1), .second, .val (.long q2), .second, .unset] [(.long (0 : Int64)), (.long q1)])) _
    refine XS.lcmp X0.here hx rfl (hb hby d2_2) rfl ?_
    show Steps p.tables e below (s₁.setTop (mkF m 3 #[.val (.long q1), .second, .val (.long q2), .second, .unset] [(.int (lcmpW q1 (0 : Int64)))])) _
    refine XS.ifNo X0.here hx rfl (hb hby d2_3) rfl ((if0 _ _).trans (flt hc3).1) ?_
    show Steps p.tables e below (s₁.setTop (mkF m 6 #[.val (.long q1), .second, .val (.long q2), .second, .unset] [])) _
    refine XS.lloadN X0.here hx rfl (hb hby d2_6) rfl ?_
    show Steps p.tables e below (s₁.setTop (mkF m 7 #[.val (.long q1), .second, .val (.long q2), .second, .unset] [(.long q2)])) _
    refine XS.lconst X0.here hx rfl (hb hby d2_7) ?_
    show Steps p.tables e below (s₁.setTop (mkF m 8 #[.val (.long q1), .second, .val (.long q2), .second, .unset] [(.long (0 : Int64)), (.long q2)])) _
    refine XS.lcmp X0.here hx rfl (hb hby d2_8) rfl ?_
    show Steps p.tables e below (s₁.setTop (mkF m 9 #[.val (.long q1), .second, .val (.long q2), .second, .unset] [(.int (lcmpW q2 (0 : Int64)))])) _
    refine XS.ifNo X0.here hx rfl (hb hby d2_9) rfl ((if0 _ _).trans (flt hc9).1) ?_
    show Steps p.tables e below (s₁.setTop (mkF m 12 #[.val (.long q1), .second, .val (.long q2), .second, .unset] [])) _
    refine XS.lloadN X0.here hx rfl (hb hby d2_12) rfl ?_
    show Steps p.tables e below (s₁.setTop (mkF m 13 #[.val (.long q1), .second, .val (.long q2), .second, .unset] [(.long q1)])) _
    refine X0.ldc2Long hx hown (mvT hZ (hw _ (List.mem_of_getElem? (i := 8) rfl))) (g := (mkF m 13 #[.val (.long q1), .second, .val (.long q2), .second, .unset] [(.long q1)])) rfl (hb hby d2_13) _ ?_
    show Steps p.tables e below (s₁.setTop (mkF m 16 #[.val (.long q1), .second, .val (.long q2), .second, .unset] [(.long (9223372036854775807 : Int64)), (.long q1)])) _
    refine XS.lloadN X0.here hx rfl (hb hby d2_16) rfl ?_
    show Steps p.tables e below (s₁.setTop (mkF m 17 #[.val (.long q1), .second, .val (.long q2), .second, .unset] [(.long q2), (.long (9223372036854775807 : Int64)), (.long q1)])) _
    refine XS.lsub X0.here hx rfl (hb hby d2_17) rfl ?_
    show Steps p.tables e below (s₁.setTop (mkF m 18 #[.val (.long q1), .second, .val (.long q2), .second, .unset] [(.long ((9223372036854775807 : Int64) - q2)), (.long q1)])) _
    refine XS.lcmp X0.here hx rfl (hb hby d2_18) rfl ?_
    show Steps p.tables e below (s₁.setTop (mkF m 19 #[.val (.long q1), .second, .val (.long q2), .second, .unset] [(.int (lcmpW q1 ((9223372036854775807 : Int64) - q2)))])) _
    refine XS.ifYes X0.here hx rfl (pc0 := 19) (pc' := 26) rfl (hb hby d2_19) rfl ((if0 _ _).trans (tlt hc19).2.2.1) (by decide) (by decide) ?_
    show Steps p.tables e below (s₁.setTop (mkF m 26 #[.val (.long q1), .second, .val (.long q2), .second, .unset] [])) _
    refine XS.iconst X0.here hx rfl (hb hby d2_26) ?_
    show Steps p.tables e below (s₁.setTop (mkF m 27 #[.val (.long q1), .second, .val (.long q2), .second, .unset] [(.int (0 : Int32))])) _
    refine XS.istore X0.here hx rfl (hb hby d2_27) rfl (l' := #[.val (.long q1), .second, .val (.long q2), .second, .val (.int (0 : Int32))]) rfl ?_
    show Steps p.tables e below (s₁.setTop (mkF m 29 #[.val (.long q1), .second, .val (.long q2), .second, .val (.int (0 : Int32))] [])) _
    refine XS.goto X0.here hx rfl (pc0 := 29) (pc' := 67) rfl (hb hby d2_29) (by decide) (by decide) ?_
    show Steps p.tables e below (s₁.setTop (mkF m 67 #[.val (.long q1), .second, .val (.long q2), .second, .val (.int (0 : Int32))] [])) _
    refine XS.iload X0.here hx rfl (hb hby d2_67) rfl ?_
    show Steps p.tables e below (s₁.setTop (mkF m 69 #[.val (.long q1), .second, .val (.long q2), .second, .val (.int (0 : Int32))] [(.int (0 : Int32))])) _
    exact retN X0 hx (t := .boolean) Bd.returns (by simp) (hb hby d2_69) hr
  · show QV (some (.int (0 : Int32))) h0 n0 _ s₁.heap _
    rw [e0]
    exact ⟨rfl, N0, rfl⟩
set_option maxRecDepth 65536 in
set_option maxHeartbeats 40000000 in
theorem rm2_fff (l : Launch) (Z : State) (a0 : Array Value) (hw : ∀ d ∈ tables_1, d.before a0 Z = true) (ws : List Jvm.Cond) (q1 : Int64) (q2 : Int64) (h0 : Heap) (n0 : Nat) (Z0 : n0 ≤ h0.size) (hc3 : ¬ ((lcmpW q1 (0 : Int64)) < (0 : Int32))) (hc9 : ¬ ((lcmpW q2 (0 : Int64)) < (0 : Int32))) (hc19 : ¬ ((0 : Int32) < (lcmpW q1 ((9223372036854775807 : Int64) - q2)))) :
    MetFree l (⟨"com/example/tab30/tab30/money/MoneyAddsWithinLongPinLaw", "expected", "(JJ)Z"⟩ : MethodName) (head1 (Jvm.Cond.code (⟨"com/example/tab30/tab30/money/MoneyAddsWithinLongPinLaw", "expected", "(JJ)Z"⟩ : MethodName) method_2_code 5 (some .boolean) :: ws) ({ frames := 0, cells := 0, slots := 0, locals := 0 } : Room)) (fun a U => a = #[(.long q1), (.long q2)] ∧ Z.Warmed39 U.vm ∧ U.heap = h0) (fun _ _ _ _ _ => True) (fun _ U o U' => ∃ v L, o = .returned v ∧ QV (some (.int (1 : Int32))) h0 n0 v U'.heap L ∧ FrameEnd U o U' L ({ frames := 0, cells := 0, slots := 0, locals := 0 } : Room).cells ({ frames := 0, cells := 0, slots := 0, locals := 0 } : Room).slots) := by
  refine MetFree.of_bodySF (plainFor_of_name pn_2) hisR ?_
  intro p e s m args below meth c s₁ Bd hml0 hP hK
  obtain ⟨rfl, hZ, hh⟩ := hP
  have hx := Bd.exec
  have hby := Bd.bytes
  have hml : c.maxLocals = 5 := hml0
  have hown : s.vm.findClass "com/example/tab30/tab30/money/MoneyAddsWithinLongPinLaw" = some m.cls := findClass_of_methodNamed Bd.named
  have hnm := (name_of_methodNamed Bd.named Bd.method).1
  have X0 : Stand p l e ({ frames := 0, cells := 0, slots := 0, locals := 0 } : Room) s m #[(.long q1), (.long q2)] below meth c s₁ [] 0 0 := Stand.of_body Bd
  have e0 : s₁.heap = h0 := by rw [← hh, Bd.state]; rfl
  have N0 := Fr.nil n0
  have pre0 : ∀ t, Steps p.tables e below (s₁.setTop (mkF m 0 #[.val (.long q1), .second, .val (.long q2), .second, .unset] [])) t → Steps p.tables e below (s₁.setTop (entryFrame m #[(.long q1), (.long q2)] 5)) t := fun t k => castTop (ef_2 m q1 q2) k

  obtain ⟨fs, hr, hrun, hended, hW, hsame⟩ := X0.leave (v := some (.int (1 : Int32))) (fun h => by rw [Bd.returns] at h; cases h)
  refine ⟨_, _, pre0 _ ?_, hrun, hended, _, _, rfl, ?_, ⟨_, rfl⟩, hW, hsame.mono (by decide) (by decide)⟩
  · show Steps p.tables e below (s₁.setTop (mkF m 0 #[.val (.long q1), .second, .val (.long q2), .second, .unset] [])) _
    refine XS.lloadN X0.here hx rfl (hb hby d2_0) rfl ?_
    show Steps p.tables e below (s₁.setTop (mkF m 1 #[.val (.long q1), .second, .val (.long q2), .second, .unset] [(.long q1)])) _
    refine XS.lconst X0.here hx rfl (hb hby d2_1) ?_
    show Steps p.tables e below (s₁.setTop (mkF m 2 #[.val (.long q1), .second, .val (.long q2), .second, .unset] [(.long (0 : Int64)), (.long q1)])) _
    refine XS.lcmp X0.here hx rfl (hb hby d2_2) rfl ?_
    show Steps p.tables e below (s₁.setTop (mkF m 3 #[.val (.long q1), .second, .val (.long q2), .second, .unset] [(.int (lcmpW q1 (0 : Int64)))])) _
    refine XS.ifNo X0.here hx rfl (hb hby d2_3) rfl ((if0 _ _).trans (flt hc3).1) ?_
    show Steps p.tables e below (s₁.setTop (mkF m 6 #[.val (.long q1), .second, .val (.long q2), .second, .unset] [])) _
    refine XS.lloadN X0.here hx rfl (hb hby d2_6) rfl ?_
    show Steps p.tables e below (s₁.setTop (mkF m 7 #[.val (.long q1), .second, .val (.long q2), .second, .unset] [(.long q2)])) _
    refine XS.lconst X0.here hx rfl (hb hby d2_7) ?_
    show Steps p.tables e below (s₁.setTop (mkF m 8 #[.val (.long q1), .second, .val (.long q2), .second, .unset] [(.long (0 : Int64)), (.long q2)])) _
    refine XS.lcmp X0.here hx rfl (hb hby d2_8) rfl ?_
    show Steps p.tables e below (s₁.setTop (mkF m 9 #[.val (.long q1), .second, .val (.long q2), .second, .unset] [(.int (lcmpW q2 (0 : Int64)))])) _
    refine XS.ifNo X0.here hx rfl (hb hby d2_9) rfl ((if0 _ _).trans (flt hc9).1) ?_
    show Steps p.tables e below (s₁.setTop (mkF m 12 #[.val (.long q1), .second, .val (.long q2), .second, .unset] [])) _
    refine XS.lloadN X0.here hx rfl (hb hby d2_12) rfl ?_
    show Steps p.tables e below (s₁.setTop (mkF m 13 #[.val (.long q1), .second, .val (.long q2), .second, .unset] [(.long q1)])) _
    refine X0.ldc2Long hx hown (mvT hZ (hw _ (List.mem_of_getElem? (i := 8) rfl))) (g := (mkF m 13 #[.val (.long q1), .second, .val (.long q2), .second, .unset] [(.long q1)])) rfl (hb hby d2_13) _ ?_
    show Steps p.tables e below (s₁.setTop (mkF m 16 #[.val (.long q1), .second, .val (.long q2), .second, .unset] [(.long (9223372036854775807 : Int64)), (.long q1)])) _
    refine XS.lloadN X0.here hx rfl (hb hby d2_16) rfl ?_
    show Steps p.tables e below (s₁.setTop (mkF m 17 #[.val (.long q1), .second, .val (.long q2), .second, .unset] [(.long q2), (.long (9223372036854775807 : Int64)), (.long q1)])) _
    refine XS.lsub X0.here hx rfl (hb hby d2_17) rfl ?_
    show Steps p.tables e below (s₁.setTop (mkF m 18 #[.val (.long q1), .second, .val (.long q2), .second, .unset] [(.long ((9223372036854775807 : Int64) - q2)), (.long q1)])) _
    refine XS.lcmp X0.here hx rfl (hb hby d2_18) rfl ?_
    show Steps p.tables e below (s₁.setTop (mkF m 19 #[.val (.long q1), .second, .val (.long q2), .second, .unset] [(.int (lcmpW q1 ((9223372036854775807 : Int64) - q2)))])) _
    refine XS.ifNo X0.here hx rfl (hb hby d2_19) rfl ((if0 _ _).trans (flt hc19).2.2.1) ?_
    show Steps p.tables e below (s₁.setTop (mkF m 22 #[.val (.long q1), .second, .val (.long q2), .second, .unset] [])) _
    refine XS.iconst X0.here hx rfl (hb hby d2_22) ?_
    show Steps p.tables e below (s₁.setTop (mkF m 23 #[.val (.long q1), .second, .val (.long q2), .second, .unset] [(.int (1 : Int32))])) _
    refine XS.goto X0.here hx rfl (pc0 := 23) (pc' := 27) rfl (hb hby d2_23) (by decide) (by decide) ?_
    show Steps p.tables e below (s₁.setTop (mkF m 27 #[.val (.long q1), .second, .val (.long q2), .second, .unset] [(.int (1 : Int32))])) _
    refine XS.istore X0.here hx rfl (hb hby d2_27) rfl (l' := #[.val (.long q1), .second, .val (.long q2), .second, .val (.int (1 : Int32))]) rfl ?_
    show Steps p.tables e below (s₁.setTop (mkF m 29 #[.val (.long q1), .second, .val (.long q2), .second, .val (.int (1 : Int32))] [])) _
    refine XS.goto X0.here hx rfl (pc0 := 29) (pc' := 67) rfl (hb hby d2_29) (by decide) (by decide) ?_
    show Steps p.tables e below (s₁.setTop (mkF m 67 #[.val (.long q1), .second, .val (.long q2), .second, .val (.int (1 : Int32))] [])) _
    refine XS.iload X0.here hx rfl (hb hby d2_67) rfl ?_
    show Steps p.tables e below (s₁.setTop (mkF m 69 #[.val (.long q1), .second, .val (.long q2), .second, .val (.int (1 : Int32))] [(.int (1 : Int32))])) _
    exact retN X0 hx (t := .boolean) Bd.returns (by simp) (hb hby d2_69) hr
  · show QV (some (.int (1 : Int32))) h0 n0 _ s₁.heap _
    rw [e0]
    exact ⟨rfl, N0, rfl⟩
def own_exp (q1 : Int64) (q2 : Int64) : Int32 := (if (lcmpW q1 (0 : Int64)) < (0 : Int32) then (if (lcmpW q1 (0 : Int64)) < (0 : Int32) then (if (lcmpW q2 (0 : Int64)) < (0 : Int32) then (if (lcmpW q1 ((-9223372036854775808 : Int64) - q2)) < (0 : Int32) then (0 : Int32) else (1 : Int32)) else (1 : Int32)) else (1 : Int32)) else (if (lcmpW q2 (0 : Int64)) < (0 : Int32) then (if (lcmpW q1 (0 : Int64)) < (0 : Int32) then (if (lcmpW q2 (0 : Int64)) < (0 : Int32) then (if (lcmpW q1 ((-9223372036854775808 : Int64) - q2)) < (0 : Int32) then (0 : Int32) else (1 : Int32)) else (1 : Int32)) else (1 : Int32)) else (if (0 : Int32) < (lcmpW q1 ((9223372036854775807 : Int64) - q2)) then (0 : Int32) else (1 : Int32))))
theorem rm2 (l : Launch) (Z : State) (a0 : Array Value) (hw : ∀ d ∈ tables_1, d.before a0 Z = true) (ws : List Jvm.Cond) (q1 : Int64) (q2 : Int64) (h0 : Heap) (n0 : Nat) (Z0 : n0 ≤ h0.size) :
    MetFree l (⟨"com/example/tab30/tab30/money/MoneyAddsWithinLongPinLaw", "expected", "(JJ)Z"⟩ : MethodName) (head1 (Jvm.Cond.code (⟨"com/example/tab30/tab30/money/MoneyAddsWithinLongPinLaw", "expected", "(JJ)Z"⟩ : MethodName) method_2_code 5 (some .boolean) :: ws) ({ frames := 0, cells := 0, slots := 0, locals := 0 } : Room)) (fun a U => a = #[(.long q1), (.long q2)] ∧ Z.Warmed39 U.vm ∧ U.heap = h0) (fun _ _ _ _ _ => True) (fun _ U o U' => ∃ v L, o = .returned v ∧ QV (some (.int (own_exp q1 q2))) h0 n0 v U'.heap L ∧ FrameEnd U o U' L ({ frames := 0, cells := 0, slots := 0, locals := 0 } : Room).cells ({ frames := 0, cells := 0, slots := 0, locals := 0 } : Room).slots) := by
  by_cases hc3 : (lcmpW q1 (0 : Int64)) < (0 : Int32)
  · by_cases hc35 : (lcmpW q1 (0 : Int64)) < (0 : Int32)
    · by_cases hc41 : (lcmpW q2 (0 : Int64)) < (0 : Int32)
      · by_cases hc51 : (lcmpW q1 ((-9223372036854775808 : Int64) - q2)) < (0 : Int32)
        · have he : own_exp q1 q2 = (0 : Int32) := by unfold own_exp; rw [if_pos hc3, if_pos hc35, if_pos hc41, if_pos hc51]
          rw [he]; exact rm2_tfft l Z a0 hw ws q1 q2 h0 n0 Z0 hc3 hc35 hc41 hc51
        · have he : own_exp q1 q2 = (1 : Int32) := by unfold own_exp; rw [if_pos hc3, if_pos hc35, if_pos hc41, if_neg hc51]
          rw [he]; exact rm2_tfff l Z a0 hw ws q1 q2 h0 n0 Z0 hc3 hc35 hc41 hc51
      · have he : own_exp q1 q2 = (1 : Int32) := by unfold own_exp; rw [if_pos hc3, if_pos hc35, if_neg hc41]
        rw [he]; exact rm2_tft l Z a0 hw ws q1 q2 h0 n0 Z0 hc3 hc35 hc41
    · have he : own_exp q1 q2 = (1 : Int32) := by unfold own_exp; rw [if_pos hc3, if_neg hc35]
      rw [he]; exact rm2_tt l Z a0 hw ws q1 q2 h0 n0 Z0 hc3 hc35
  · by_cases hc9 : (lcmpW q2 (0 : Int64)) < (0 : Int32)
    · by_cases hc35 : (lcmpW q1 (0 : Int64)) < (0 : Int32)
      · by_cases hc41 : (lcmpW q2 (0 : Int64)) < (0 : Int32)
        · by_cases hc51 : (lcmpW q1 ((-9223372036854775808 : Int64) - q2)) < (0 : Int32)
          · have he : own_exp q1 q2 = (0 : Int32) := by unfold own_exp; rw [if_neg hc3, if_pos hc9, if_pos hc35, if_pos hc41, if_pos hc51]
            rw [he]; exact rm2_ftfft l Z a0 hw ws q1 q2 h0 n0 Z0 hc3 hc9 hc35 hc41 hc51
          · have he : own_exp q1 q2 = (1 : Int32) := by unfold own_exp; rw [if_neg hc3, if_pos hc9, if_pos hc35, if_pos hc41, if_neg hc51]
            rw [he]; exact rm2_ftfff l Z a0 hw ws q1 q2 h0 n0 Z0 hc3 hc9 hc35 hc41 hc51
        · have he : own_exp q1 q2 = (1 : Int32) := by unfold own_exp; rw [if_neg hc3, if_pos hc9, if_pos hc35, if_neg hc41]
          rw [he]; exact rm2_ftft l Z a0 hw ws q1 q2 h0 n0 Z0 hc3 hc9 hc35 hc41
      · have he : own_exp q1 q2 = (1 : Int32) := by unfold own_exp; rw [if_neg hc3, if_pos hc9, if_neg hc35]
        rw [he]; exact rm2_ftt l Z a0 hw ws q1 q2 h0 n0 Z0 hc3 hc9 hc35
    · by_cases hc19 : (0 : Int32) < (lcmpW q1 ((9223372036854775807 : Int64) - q2))
      · have he : own_exp q1 q2 = (0 : Int32) := by unfold own_exp; rw [if_neg hc3, if_neg hc9, if_pos hc19]
        rw [he]; exact rm2_fft l Z a0 hw ws q1 q2 h0 n0 Z0 hc3 hc9 hc19
      · have he : own_exp q1 q2 = (1 : Int32) := by unfold own_exp; rw [if_neg hc3, if_neg hc9, if_neg hc19]
        rw [he]; exact rm2_fff l Z a0 hw ws q1 q2 h0 n0 Z0 hc3 hc9 hc19
theorem pn_0 : plainName "com/example/tab30/tab30/money/MoneyAddsWithinLongPinLaw" = true := by first | (simp [plainName, overriddenIn]; done) | decide +kernel
theorem pd_0_0 : parseMethodDescriptor "(JJ)Z" = some ⟨[.long, .long], some .boolean⟩ := by decide +kernel
theorem ef_0 (m : MethodId) (x0 : Int64) (x1 : Int64) (x2 : Int32) : entryFrame m #[(.long x0), (.long x1), (.int x2)] maxLocals = mkF m 0 #[.val (.long x0), .second, .val (.long x1), .second, .val (.int x2), .unset, .unset, .unset, .unset, .unset] [] := by first | (simp [entryFrame, mkF, argsToLocals, Value.category, maxLocals]; done) | rfl
theorem own_msb (z : Int64) : z.toInt < 0 ↔ z.toBitVec.msb = true := by
  show z.toBitVec.toInt < 0 ↔ _
  rw [BitVec.msb_eq_toInt, decide_eq_true_iff]
theorem own_neg_and (x y : Int64) : (x &&& y).toInt < 0 ↔ x.toInt < 0 ∧ y.toInt < 0 := by
  rw [own_msb, own_msb, own_msb]
  show (x.toBitVec &&& y.toBitVec).msb = true ↔ _
  rw [BitVec.msb_and]
  cases x.toBitVec.msb <;> cases y.toBitVec.msb <;> decide
theorem own_neg_xor (x y : Int64) : (x ^^^ y).toInt < 0 ↔ ¬ (x.toInt < 0 ↔ y.toInt < 0) := by
  rw [own_msb, own_msb, own_msb]
  show (x.toBitVec ^^^ y.toBitVec).msb = true ↔ _
  rw [BitVec.msb_xor]
  cases x.toBitVec.msb <;> cases y.toBitVec.msb <;> decide
theorem own_ovf (a b : Int64) : ((a ^^^ (a + b)) &&& (b ^^^ (a + b))).toInt < 0 ↔ (a.toInt + b.toInt < -9223372036854775808 ∨ 9223372036854775808 ≤ a.toInt + b.toInt) := by
  have r1 := rng64 a
  have r2 := rng64 b
  have r3 := rng64 (a + b)
  have e1 := c_ladd a b
  rw [own_neg_and, own_neg_xor, own_neg_xor]
  generalize (a + b).toInt = S at *
  generalize a.toInt = A at *
  generalize b.toInt = B at *
  by_cases ha : A < 0 <;> by_cases hb : B < 0 <;> by_cases hs : S < 0 <;> simp only [ha, hb, hs] <;> simp <;> omega
theorem own_adds_eq (a b : Int64) : own_adds a b = if (a.toInt + b.toInt < -9223372036854775808 ∨ 9223372036854775808 ≤ a.toInt + b.toInt) then (0 : Int32) else (1 : Int32) := by
  have h0 : (0 : Int64).toInt = 0 := by decide
  have hov := own_ovf a b
  unfold own_adds
  by_cases q : (a.toInt + b.toInt < -9223372036854775808 ∨ 9223372036854775808 ≤ a.toInt + b.toInt)
  · rw [if_pos q, if_pos (by rw [lw_lt, Int64.lt_iff_toInt_lt, h0]; exact hov.mpr q)]
  · rw [if_neg q, if_neg (by rw [lw_lt, Int64.lt_iff_toInt_lt, h0]; exact fun z => q (hov.mp z))]
theorem own_eq (a b : Int64) : own_adds a b = own_exp a b := by
  have hM : (9223372036854775807 : Int64).toInt = 9223372036854775807 := by decide
  have hm : (-9223372036854775808 : Int64).toInt = -9223372036854775808 := by decide
  have h0 : (0 : Int64).toInt = 0 := by decide
  have r1 := rng64 a
  have r2 := rng64 b
  have e2 := c_lsub 9223372036854775807 b
  have r4 := rng64 (9223372036854775807 - b)
  have e3 := c_lsub (-9223372036854775808) b
  have r5 := rng64 (-9223372036854775808 - b)
  rw [own_adds_eq]
  simp only [own_exp, lw_lt, lw_gt, Int64.lt_iff_toInt_lt, h0]
  generalize (9223372036854775807 - b : Int64).toInt = U at *
  generalize (-9223372036854775808 - b : Int64).toInt = W at *
  rw [hM] at e2
  rw [hm] at e3
  generalize a.toInt = A at *
  generalize b.toInt = B at *
  have u1 : 0 ≤ B → U = 9223372036854775807 - B := fun _ => by omega
  have u2 : B < 0 → W = -9223372036854775808 - B := fun _ => by omega
  clear e2 e3 hM hm h0
  repeat' split
  all_goals first | rfl | (exfalso; omega)
def Q0 (Z : State) (q1 : Int64) (q2 : Int64) (p3 : Int32) (h0 : Heap) (n0 : Nat) (v : Option Value) (h : Heap) (L : List Loc) : Prop := v = some (.int (1 : Int32)) ∧ Fr n0 L
set_option maxRecDepth 65536 in
set_option maxHeartbeats 40000000 in
theorem rm0_ff (l : Launch) (Z : State) (a0 : Array Value) (hw : ∀ d ∈ tables_1, d.before a0 Z = true) (ws : List Jvm.Cond) (q1 : Int64) (q2 : Int64) (p3 : Int32) (h0 : Heap) (n0 : Nat) (Z0 : n0 ≤ h0.size) (hc23 : (p3 &&& (3 : Int32)) = (1 : Int32)) (hc67 : (own_adds q1 (((9223372036854775807 : Int64) - q1) + ((((p3 >>> ((2 : Int32) &&& 31)) &&& (3 : Int32)).toInt64) - (1 : Int64)))) = (own_exp q1 (((9223372036854775807 : Int64) - q1) + ((((p3 >>> ((2 : Int32) &&& 31)) &&& (3 : Int32)).toInt64) - (1 : Int64))))) :
    MetFree l x (head1 (Jvm.Cond.code x code maxLocals ret :: ws) room_1) (fun a U => a = #[(.long q1), (.long q2), (.int p3)] ∧ Z.Warmed39 U.vm ∧ U.heap = h0) (fun _ _ _ _ _ => True) (fun _ U o U' => ∃ v L, o = .returned v ∧ Q0 Z q1 q2 p3 h0 n0 v U'.heap L ∧ FrameEnd U o U' L room_1.cells room_1.slots) := by
  refine MetFree.of_bodySF (plainFor_of_name pn_0) hisR ?_
  intro p e s m args below meth c s₁ Bd hml0 hP hK
  obtain ⟨rfl, hZ, hh⟩ := hP
  have hx := Bd.exec
  have hby := Bd.bytes
  have hml : c.maxLocals = 10 := hml0
  have hown : s.vm.findClass "com/example/tab30/tab30/money/MoneyAddsWithinLongPinLaw" = some m.cls := findClass_of_methodNamed Bd.named
  have hnm := (name_of_methodNamed Bd.named Bd.method).1
  have X0 : Stand p l e room_1 s m #[(.long q1), (.long q2), (.int p3)] below meth c s₁ [] 0 0 := Stand.of_body Bd
  have e0 : s₁.heap = h0 := by rw [← hh, Bd.state]; rfl
  have N0 := Fr.nil n0
  have pre0 : ∀ t, Steps p.tables e below (s₁.setTop (mkF m 0 #[.val (.long q1), .second, .val (.long q2), .second, .val (.int p3), .unset, .unset, .unset, .unset, .unset] [])) t → Steps p.tables e below (s₁.setTop (entryFrame m #[(.long q1), (.long q2), (.int p3)] maxLocals)) t := fun t k => castTop (ef_0 m q1 q2 p3) k
  obtain ⟨_, _, ⟨T4, L4, k4, n4⟩, -, X4, ⟨Lc4, hQ4, l4, y4, z4⟩, st4⟩ := Jvm.LawKit.callS X0 hx (y := (⟨"com/example/tab30/tab30/money/Money", "addsWithinLong", "(JJ)Z"⟩ : MethodName)) hown (mvT hZ (hw _ (List.mem_of_getElem? (i := 0) rfl))) (mvT hZ (hw _ (List.mem_of_getElem? (i := 1) rfl))) (mvT hZ (hw _ (List.mem_of_getElem? (i := 2) rfl))) (mvT hZ (hw _ (List.mem_of_getElem? (i := 3) rfl))) (by decide) (backOf (W := 0) (rm1 l Z a0 hw [] q1 (((9223372036854775807 : Int64) - q1) + ((((p3 >>> ((2 : Int32) &&& 31)) &&& (3 : Int32)).toInt64) - (1 : Int64))) h0 n0 Z0) hZ (hw _ (List.mem_of_getElem? (i := 3) rfl)) (hw _ (List.mem_of_getElem? (i := 2) rfl)) (by decide) (by decide)) (g := (mkF m 58 #[.val (.long q1), .second, .val (.long q2), .second, .val (.int p3), .val (.int (p3 &&& (3 : Int32))), .val (.long ((((p3 >>> ((2 : Int32) &&& 31)) &&& (3 : Int32)).toInt64) - (1 : Int64))), .second, .val (.long (((9223372036854775807 : Int64) - q1) + ((((p3 >>> ((2 : Int32) &&& 31)) &&& (3 : Int32)).toInt64) - (1 : Int64)))), .second] [(.long (((9223372036854775807 : Int64) - q1) + ((((p3 >>> ((2 : Int32) &&& 31)) &&& (3 : Int32)).toInt64) - (1 : Int64)))), (.long q1)])) rfl (by rw [hml]; rfl) (argsL := [(.long q1), (.long (((9223372036854775807 : Int64) - q1) + ((((p3 >>> ((2 : Int32) &&& 31)) &&& (3 : Int32)).toInt64) - (1 : Int64))))]) (rest := []) (lenOf pd_0_0 rfl) rfl (by show 2 * 0 + _ ≤ _; exact Nat.le_of_eq rfl) (hb hby at_58) (fun _ _ => ⟨rfl, e0, (by decide : 0 + 0 ≤ _), (by decide : 0 + 0 ≤ _)⟩)
  dsimp only [Pt.U, Pt.locs, Pt.cells, Pt.slots] at X4 l4 y4 z4 st4 hQ4
  subst l4 y4 z4
  obtain ⟨rfl, N4q, h4q⟩ := hQ4
  have Zc4 : n0 ≤ T4.heap.size := by rw [h4q]; exact Z0
  have N4 := Fr.app N0 N4q
  obtain ⟨_, _, ⟨T5, L5, k5, n5⟩, -, X5, ⟨Lc5, hQ5, l5, y5, z5⟩, st5⟩ := Jvm.LawKit.callS X4 hx (y := (⟨"com/example/tab30/tab30/money/MoneyAddsWithinLongPinLaw", "expected", "(JJ)Z"⟩ : MethodName)) hown (mvT hZ (hw _ (List.mem_of_getElem? (i := 4) rfl))) (mvT hZ (hw _ (List.mem_of_getElem? (i := 5) rfl))) (mvT hZ (hw _ (List.mem_of_getElem? (i := 6) rfl))) (mvT hZ (hw _ (List.mem_of_getElem? (i := 7) rfl))) (by decide) (backOf (W := 1) (rm2 l Z a0 hw [] q1 (((9223372036854775807 : Int64) - q1) + ((((p3 >>> ((2 : Int32) &&& 31)) &&& (3 : Int32)).toInt64) - (1 : Int64))) T4.heap n0 Zc4) hZ (hw _ (List.mem_of_getElem? (i := 7) rfl)) (hw _ (List.mem_of_getElem? (i := 6) rfl)) (by decide) (by decide)) (g := (mkF m 64 #[.val (.long q1), .second, .val (.long q2), .second, .val (.int p3), .val (.int (p3 &&& (3 : Int32))), .val (.long ((((p3 >>> ((2 : Int32) &&& 31)) &&& (3 : Int32)).toInt64) - (1 : Int64))), .second, .val (.long (((9223372036854775807 : Int64) - q1) + ((((p3 >>> ((2 : Int32) &&& 31)) &&& (3 : Int32)).toInt64) - (1 : Int64)))), .second] [(.long (((9223372036854775807 : Int64) - q1) + ((((p3 >>> ((2 : Int32) &&& 31)) &&& (3 : Int32)).toInt64) - (1 : Int64)))), (.long q1), (.int (own_adds q1 (((9223372036854775807 : Int64) - q1) + ((((p3 >>> ((2 : Int32) &&& 31)) &&& (3 : Int32)).toInt64) - (1 : Int64)))))])) rfl (by rw [hml]; rfl) (argsL := [(.long q1), (.long (((9223372036854775807 : Int64) - q1) + ((((p3 >>> ((2 : Int32) &&& 31)) &&& (3 : Int32)).toInt64) - (1 : Int64))))]) (rest := [(.int (own_adds q1 (((9223372036854775807 : Int64) - q1) + ((((p3 >>> ((2 : Int32) &&& 31)) &&& (3 : Int32)).toInt64) - (1 : Int64)))))]) (lenOf pd_0_0 rfl) rfl (by show 2 * 0 + _ ≤ _; exact Nat.le_of_eq rfl) (hb hby at_64) (fun _ _ => ⟨rfl, rfl, (by decide : 0 + 0 ≤ _), (by decide : 0 + 0 ≤ _)⟩)
  dsimp only [Pt.U, Pt.locs, Pt.cells, Pt.slots] at X5 l5 y5 z5 st5 hQ5
  subst l5 y5 z5
  obtain ⟨rfl, N5q, h5q⟩ := hQ5
  have Zc5 : n0 ≤ T5.heap.size := by rw [h5q]; exact Zc4
  have N5 := Fr.app N4 N5q
  obtain ⟨fs, hr, hrun, hended, hW, hsame⟩ := X5.leave (v := some (.int (1 : Int32))) (fun h => by rw [Bd.returns] at h; cases h)
  refine ⟨_, _, pre0 _ ?_, hrun, hended, _, _, rfl, ?_, ⟨_, rfl⟩, hW, hsame.mono (by decide) (by decide)⟩
  · show Steps p.tables e below (s₁.setTop (mkF m 0 #[.val (.long q1), .second, .val (.long q2), .second, .val (.int p3), .unset, .unset, .unset, .unset, .unset] [])) _
    refine XS.iload X0.here hx rfl (hb hby at_0) rfl ?_
    show Steps p.tables e below (s₁.setTop (mkF m 2 #[.val (.long q1), .second, .val (.long q2), .second, .val (.int p3), .unset, .unset, .unset, .unset, .unset] [(.int p3)])) _
    refine XS.iconst X0.here hx rfl (hb hby at_2) ?_
    show Steps p.tables e below (s₁.setTop (mkF m 3 #[.val (.long q1), .second, .val (.long q2), .second, .val (.int p3), .unset, .unset, .unset, .unset, .unset] [(.int (3 : Int32)), (.int p3)])) _
    refine XS.iand X0.here hx rfl (hb hby at_3) rfl ?_
    show Steps p.tables e below (s₁.setTop (mkF m 4 #[.val (.long q1), .second, .val (.long q2), .second, .val (.int p3), .unset, .unset, .unset, .unset, .unset] [(.int (p3 &&& (3 : Int32)))])) _
    refine XS.istore X0.here hx rfl (hb hby at_4) rfl (l' := #[.val (.long q1), .second, .val (.long q2), .second, .val (.int p3), .val (.int (p3 &&& (3 : Int32))), .unset, .unset, .unset, .unset]) rfl ?_
    show Steps p.tables e below (s₁.setTop (mkF m 6 #[.val (.long q1), .second, .val (.long q2), .second, .val (.int p3), .val (.int (p3 &&& (3 : Int32))), .unset, .unset, .unset, .unset] [])) _
    refine XS.iload X0.here hx rfl (hb hby at_6) rfl ?_
    show Steps p.tables e below (s₁.setTop (mkF m 8 #[.val (.long q1), .second, .val (.long q2), .second, .val (.int p3), .val (.int (p3 &&& (3 : Int32))), .unset, .unset, .unset, .unset] [(.int p3)])) _
    refine XS.iconst X0.here hx rfl (hb hby at_8) ?_
    show Steps p.tables e below (s₁.setTop (mkF m 9 #[.val (.long q1), .second, .val (.long q2), .second, .val (.int p3), .val (.int (p3 &&& (3 : Int32))), .unset, .unset, .unset, .unset] [(.int (2 : Int32)), (.int p3)])) _
    refine XS.ishr X0.here hx rfl (hb hby at_9) rfl ?_
    show Steps p.tables e below (s₁.setTop (mkF m 10 #[.val (.long q1), .second, .val (.long q2), .second, .val (.int p3), .val (.int (p3 &&& (3 : Int32))), .unset, .unset, .unset, .unset] [(.int (p3 >>> ((2 : Int32) &&& 31)))])) _
    refine XS.iconst X0.here hx rfl (hb hby at_10) ?_
    show Steps p.tables e below (s₁.setTop (mkF m 11 #[.val (.long q1), .second, .val (.long q2), .second, .val (.int p3), .val (.int (p3 &&& (3 : Int32))), .unset, .unset, .unset, .unset] [(.int (3 : Int32)), (.int (p3 >>> ((2 : Int32) &&& 31)))])) _
    refine XS.iand X0.here hx rfl (hb hby at_11) rfl ?_
    show Steps p.tables e below (s₁.setTop (mkF m 12 #[.val (.long q1), .second, .val (.long q2), .second, .val (.int p3), .val (.int (p3 &&& (3 : Int32))), .unset, .unset, .unset, .unset] [(.int ((p3 >>> ((2 : Int32) &&& 31)) &&& (3 : Int32)))])) _
    refine XS.i2l X0.here hx rfl (hb hby at_12) rfl ?_
    show Steps p.tables e below (s₁.setTop (mkF m 13 #[.val (.long q1), .second, .val (.long q2), .second, .val (.int p3), .val (.int (p3 &&& (3 : Int32))), .unset, .unset, .unset, .unset] [(.long (((p3 >>> ((2 : Int32) &&& 31)) &&& (3 : Int32)).toInt64))])) _
    refine XS.lconst X0.here hx rfl (hb hby at_13) ?_
    show Steps p.tables e below (s₁.setTop (mkF m 14 #[.val (.long q1), .second, .val (.long q2), .second, .val (.int p3), .val (.int (p3 &&& (3 : Int32))), .unset, .unset, .unset, .unset] [(.long (1 : Int64)), (.long (((p3 >>> ((2 : Int32) &&& 31)) &&& (3 : Int32)).toInt64))])) _
    refine XS.lsub X0.here hx rfl (hb hby at_14) rfl ?_
    show Steps p.tables e below (s₁.setTop (mkF m 15 #[.val (.long q1), .second, .val (.long q2), .second, .val (.int p3), .val (.int (p3 &&& (3 : Int32))), .unset, .unset, .unset, .unset] [(.long ((((p3 >>> ((2 : Int32) &&& 31)) &&& (3 : Int32)).toInt64) - (1 : Int64)))])) _
    refine XS.lstore X0.here hx rfl (hb hby at_15) rfl (l' := #[.val (.long q1), .second, .val (.long q2), .second, .val (.int p3), .val (.int (p3 &&& (3 : Int32))), .val (.long ((((p3 >>> ((2 : Int32) &&& 31)) &&& (3 : Int32)).toInt64) - (1 : Int64))), .second, .unset, .unset]) rfl ?_
    show Steps p.tables e below (s₁.setTop (mkF m 17 #[.val (.long q1), .second, .val (.long q2), .second, .val (.int p3), .val (.int (p3 &&& (3 : Int32))), .val (.long ((((p3 >>> ((2 : Int32) &&& 31)) &&& (3 : Int32)).toInt64) - (1 : Int64))), .second, .unset, .unset] [])) _
    refine XS.lloadN X0.here hx rfl (hb hby at_17) rfl ?_
    show Steps p.tables e below (s₁.setTop (mkF m 18 #[.val (.long q1), .second, .val (.long q2), .second, .val (.int p3), .val (.int (p3 &&& (3 : Int32))), .val (.long ((((p3 >>> ((2 : Int32) &&& 31)) &&& (3 : Int32)).toInt64) - (1 : Int64))), .second, .unset, .unset] [(.long q2)])) _
    refine XS.lstore X0.here hx rfl (hb hby at_18) rfl (l' := #[.val (.long q1), .second, .val (.long q2), .second, .val (.int p3), .val (.int (p3 &&& (3 : Int32))), .val (.long ((((p3 >>> ((2 : Int32) &&& 31)) &&& (3 : Int32)).toInt64) - (1 : Int64))), .second, .val (.long q2), .second]) rfl ?_
    show Steps p.tables e below (s₁.setTop (mkF m 20 #[.val (.long q1), .second, .val (.long q2), .second, .val (.int p3), .val (.int (p3 &&& (3 : Int32))), .val (.long ((((p3 >>> ((2 : Int32) &&& 31)) &&& (3 : Int32)).toInt64) - (1 : Int64))), .second, .val (.long q2), .second] [])) _
    refine XS.iload X0.here hx rfl (hb hby at_20) rfl ?_
    show Steps p.tables e below (s₁.setTop (mkF m 22 #[.val (.long q1), .second, .val (.long q2), .second, .val (.int p3), .val (.int (p3 &&& (3 : Int32))), .val (.long ((((p3 >>> ((2 : Int32) &&& 31)) &&& (3 : Int32)).toInt64) - (1 : Int64))), .second, .val (.long q2), .second] [(.int (p3 &&& (3 : Int32)))])) _
    refine XS.iconst X0.here hx rfl (hb hby at_22) ?_
    show Steps p.tables e below (s₁.setTop (mkF m 23 #[.val (.long q1), .second, .val (.long q2), .second, .val (.int p3), .val (.int (p3 &&& (3 : Int32))), .val (.long ((((p3 >>> ((2 : Int32) &&& 31)) &&& (3 : Int32)).toInt64) - (1 : Int64))), .second, .val (.long q2), .second] [(.int (1 : Int32)), (.int (p3 &&& (3 : Int32)))])) _
    refine XS.icmpNo X0.here hx rfl (hb hby at_23) rfl (teq hc23).2 ?_
    show Steps p.tables e below (s₁.setTop (mkF m 26 #[.val (.long q1), .second, .val (.long q2), .second, .val (.int p3), .val (.int (p3 &&& (3 : Int32))), .val (.long ((((p3 >>> ((2 : Int32) &&& 31)) &&& (3 : Int32)).toInt64) - (1 : Int64))), .second, .val (.long q2), .second] [])) _
    refine X0.ldc2Long hx hown (mvT hZ (hw _ (List.mem_of_getElem? (i := 8) rfl))) (g := (mkF m 26 #[.val (.long q1), .second, .val (.long q2), .second, .val (.int p3), .val (.int (p3 &&& (3 : Int32))), .val (.long ((((p3 >>> ((2 : Int32) &&& 31)) &&& (3 : Int32)).toInt64) - (1 : Int64))), .second, .val (.long q2), .second] [])) rfl (hb hby at_26) _ ?_
    show Steps p.tables e below (s₁.setTop (mkF m 29 #[.val (.long q1), .second, .val (.long q2), .second, .val (.int p3), .val (.int (p3 &&& (3 : Int32))), .val (.long ((((p3 >>> ((2 : Int32) &&& 31)) &&& (3 : Int32)).toInt64) - (1 : Int64))), .second, .val (.long q2), .second] [(.long (9223372036854775807 : Int64))])) _
    refine XS.lloadN X0.here hx rfl (hb hby at_29) rfl ?_
    show Steps p.tables e below (s₁.setTop (mkF m 30 #[.val (.long q1), .second, .val (.long q2), .second, .val (.int p3), .val (.int (p3 &&& (3 : Int32))), .val (.long ((((p3 >>> ((2 : Int32) &&& 31)) &&& (3 : Int32)).toInt64) - (1 : Int64))), .second, .val (.long q2), .second] [(.long q1), (.long (9223372036854775807 : Int64))])) _
    refine XS.lsub X0.here hx rfl (hb hby at_30) rfl ?_
    show Steps p.tables e below (s₁.setTop (mkF m 31 #[.val (.long q1), .second, .val (.long q2), .second, .val (.int p3), .val (.int (p3 &&& (3 : Int32))), .val (.long ((((p3 >>> ((2 : Int32) &&& 31)) &&& (3 : Int32)).toInt64) - (1 : Int64))), .second, .val (.long q2), .second] [(.long ((9223372036854775807 : Int64) - q1))])) _
    refine XS.lload X0.here hx rfl (hb hby at_31) rfl ?_
    show Steps p.tables e below (s₁.setTop (mkF m 33 #[.val (.long q1), .second, .val (.long q2), .second, .val (.int p3), .val (.int (p3 &&& (3 : Int32))), .val (.long ((((p3 >>> ((2 : Int32) &&& 31)) &&& (3 : Int32)).toInt64) - (1 : Int64))), .second, .val (.long q2), .second] [(.long ((((p3 >>> ((2 : Int32) &&& 31)) &&& (3 : Int32)).toInt64) - (1 : Int64))), (.long ((9223372036854775807 : Int64) - q1))])) _
    refine XS.ladd X0.here hx rfl (hb hby at_33) rfl ?_
    show Steps p.tables e below (s₁.setTop (mkF m 34 #[.val (.long q1), .second, .val (.long q2), .second, .val (.int p3), .val (.int (p3 &&& (3 : Int32))), .val (.long ((((p3 >>> ((2 : Int32) &&& 31)) &&& (3 : Int32)).toInt64) - (1 : Int64))), .second, .val (.long q2), .second] [(.long (((9223372036854775807 : Int64) - q1) + ((((p3 >>> ((2 : Int32) &&& 31)) &&& (3 : Int32)).toInt64) - (1 : Int64))))])) _
    refine XS.lstore X0.here hx rfl (hb hby at_34) rfl (l' := #[.val (.long q1), .second, .val (.long q2), .second, .val (.int p3), .val (.int (p3 &&& (3 : Int32))), .val (.long ((((p3 >>> ((2 : Int32) &&& 31)) &&& (3 : Int32)).toInt64) - (1 : Int64))), .second, .val (.long (((9223372036854775807 : Int64) - q1) + ((((p3 >>> ((2 : Int32) &&& 31)) &&& (3 : Int32)).toInt64) - (1 : Int64)))), .second]) rfl ?_
    show Steps p.tables e below (s₁.setTop (mkF m 36 #[.val (.long q1), .second, .val (.long q2), .second, .val (.int p3), .val (.int (p3 &&& (3 : Int32))), .val (.long ((((p3 >>> ((2 : Int32) &&& 31)) &&& (3 : Int32)).toInt64) - (1 : Int64))), .second, .val (.long (((9223372036854775807 : Int64) - q1) + ((((p3 >>> ((2 : Int32) &&& 31)) &&& (3 : Int32)).toInt64) - (1 : Int64)))), .second] [])) _
    refine XS.goto X0.here hx rfl (pc0 := 36) (pc' := 55) rfl (hb hby at_36) (by decide) (by decide) ?_
    show Steps p.tables e below (s₁.setTop (mkF m 55 #[.val (.long q1), .second, .val (.long q2), .second, .val (.int p3), .val (.int (p3 &&& (3 : Int32))), .val (.long ((((p3 >>> ((2 : Int32) &&& 31)) &&& (3 : Int32)).toInt64) - (1 : Int64))), .second, .val (.long (((9223372036854775807 : Int64) - q1) + ((((p3 >>> ((2 : Int32) &&& 31)) &&& (3 : Int32)).toInt64) - (1 : Int64)))), .second] [])) _
    refine XS.lloadN X0.here hx rfl (hb hby at_55) rfl ?_
    show Steps p.tables e below (s₁.setTop (mkF m 56 #[.val (.long q1), .second, .val (.long q2), .second, .val (.int p3), .val (.int (p3 &&& (3 : Int32))), .val (.long ((((p3 >>> ((2 : Int32) &&& 31)) &&& (3 : Int32)).toInt64) - (1 : Int64))), .second, .val (.long (((9223372036854775807 : Int64) - q1) + ((((p3 >>> ((2 : Int32) &&& 31)) &&& (3 : Int32)).toInt64) - (1 : Int64)))), .second] [(.long q1)])) _
    refine XS.lload X0.here hx rfl (hb hby at_56) rfl ?_
    show Steps p.tables e below (s₁.setTop (mkF m 58 #[.val (.long q1), .second, .val (.long q2), .second, .val (.int p3), .val (.int (p3 &&& (3 : Int32))), .val (.long ((((p3 >>> ((2 : Int32) &&& 31)) &&& (3 : Int32)).toInt64) - (1 : Int64))), .second, .val (.long (((9223372036854775807 : Int64) - q1) + ((((p3 >>> ((2 : Int32) &&& 31)) &&& (3 : Int32)).toInt64) - (1 : Int64)))), .second] [(.long (((9223372036854775807 : Int64) - q1) + ((((p3 >>> ((2 : Int32) &&& 31)) &&& (3 : Int32)).toInt64) - (1 : Int64)))), (.long q1)])) _
    refine st4 _ ?_
    show Steps p.tables e below (T4.setTop (mkF m 61 #[.val (.long q1), .second, .val (.long q2), .second, .val (.int p3), .val (.int (p3 &&& (3 : Int32))), .val (.long ((((p3 >>> ((2 : Int32) &&& 31)) &&& (3 : Int32)).toInt64) - (1 : Int64))), .second, .val (.long (((9223372036854775807 : Int64) - q1) + ((((p3 >>> ((2 : Int32) &&& 31)) &&& (3 : Int32)).toInt64) - (1 : Int64)))), .second] [(.int (own_adds q1 (((9223372036854775807 : Int64) - q1) + ((((p3 >>> ((2 : Int32) &&& 31)) &&& (3 : Int32)).toInt64) - (1 : Int64)))))])) _
    refine XS.lloadN X4.here hx rfl (hb hby at_61) rfl ?_
    show Steps p.tables e below (T4.setTop (mkF m 62 #[.val (.long q1), .second, .val (.long q2), .second, .val (.int p3), .val (.int (p3 &&& (3 : Int32))), .val (.long ((((p3 >>> ((2 : Int32) &&& 31)) &&& (3 : Int32)).toInt64) - (1 : Int64))), .second, .val (.long (((9223372036854775807 : Int64) - q1) + ((((p3 >>> ((2 : Int32) &&& 31)) &&& (3 : Int32)).toInt64) - (1 : Int64)))), .second] [(.long q1), (.int (own_adds q1 (((9223372036854775807 : Int64) - q1) + ((((p3 >>> ((2 : Int32) &&& 31)) &&& (3 : Int32)).toInt64) - (1 : Int64)))))])) _
    refine XS.lload X4.here hx rfl (hb hby at_62) rfl ?_
    show Steps p.tables e below (T4.setTop (mkF m 64 #[.val (.long q1), .second, .val (.long q2), .second, .val (.int p3), .val (.int (p3 &&& (3 : Int32))), .val (.long ((((p3 >>> ((2 : Int32) &&& 31)) &&& (3 : Int32)).toInt64) - (1 : Int64))), .second, .val (.long (((9223372036854775807 : Int64) - q1) + ((((p3 >>> ((2 : Int32) &&& 31)) &&& (3 : Int32)).toInt64) - (1 : Int64)))), .second] [(.long (((9223372036854775807 : Int64) - q1) + ((((p3 >>> ((2 : Int32) &&& 31)) &&& (3 : Int32)).toInt64) - (1 : Int64)))), (.long q1), (.int (own_adds q1 (((9223372036854775807 : Int64) - q1) + ((((p3 >>> ((2 : Int32) &&& 31)) &&& (3 : Int32)).toInt64) - (1 : Int64)))))])) _
    refine st5 _ ?_
    show Steps p.tables e below (T5.setTop (mkF m 67 #[.val (.long q1), .second, .val (.long q2), .second, .val (.int p3), .val (.int (p3 &&& (3 : Int32))), .val (.long ((((p3 >>> ((2 : Int32) &&& 31)) &&& (3 : Int32)).toInt64) - (1 : Int64))), .second, .val (.long (((9223372036854775807 : Int64) - q1) + ((((p3 >>> ((2 : Int32) &&& 31)) &&& (3 : Int32)).toInt64) - (1 : Int64)))), .second] [(.int (own_exp q1 (((9223372036854775807 : Int64) - q1) + ((((p3 >>> ((2 : Int32) &&& 31)) &&& (3 : Int32)).toInt64) - (1 : Int64))))), (.int (own_adds q1 (((9223372036854775807 : Int64) - q1) + ((((p3 >>> ((2 : Int32) &&& 31)) &&& (3 : Int32)).toInt64) - (1 : Int64)))))])) _
    refine XS.icmpNo X5.here hx rfl (hb hby at_67) rfl (teq hc67).2 ?_
    show Steps p.tables e below (T5.setTop (mkF m 70 #[.val (.long q1), .second, .val (.long q2), .second, .val (.int p3), .val (.int (p3 &&& (3 : Int32))), .val (.long ((((p3 >>> ((2 : Int32) &&& 31)) &&& (3 : Int32)).toInt64) - (1 : Int64))), .second, .val (.long (((9223372036854775807 : Int64) - q1) + ((((p3 >>> ((2 : Int32) &&& 31)) &&& (3 : Int32)).toInt64) - (1 : Int64)))), .second] [])) _
    refine XS.iconst X5.here hx rfl (hb hby at_70) ?_
    show Steps p.tables e below (T5.setTop (mkF m 71 #[.val (.long q1), .second, .val (.long q2), .second, .val (.int p3), .val (.int (p3 &&& (3 : Int32))), .val (.long ((((p3 >>> ((2 : Int32) &&& 31)) &&& (3 : Int32)).toInt64) - (1 : Int64))), .second, .val (.long (((9223372036854775807 : Int64) - q1) + ((((p3 >>> ((2 : Int32) &&& 31)) &&& (3 : Int32)).toInt64) - (1 : Int64)))), .second] [(.int (1 : Int32))])) _
    refine XS.goto X5.here hx rfl (pc0 := 71) (pc' := 75) rfl (hb hby at_71) (by decide) (by decide) ?_
    show Steps p.tables e below (T5.setTop (mkF m 75 #[.val (.long q1), .second, .val (.long q2), .second, .val (.int p3), .val (.int (p3 &&& (3 : Int32))), .val (.long ((((p3 >>> ((2 : Int32) &&& 31)) &&& (3 : Int32)).toInt64) - (1 : Int64))), .second, .val (.long (((9223372036854775807 : Int64) - q1) + ((((p3 >>> ((2 : Int32) &&& 31)) &&& (3 : Int32)).toInt64) - (1 : Int64)))), .second] [(.int (1 : Int32))])) _
    exact retN X5 hx (t := .boolean) Bd.returns (by simp) (hb hby at_75) hr
  · show Q0 Z q1 q2 p3 h0 n0 _ T5.heap _
    exact ⟨rfl, N5⟩
set_option maxRecDepth 65536 in
set_option maxHeartbeats 40000000 in
theorem rm0_tff (l : Launch) (Z : State) (a0 : Array Value) (hw : ∀ d ∈ tables_1, d.before a0 Z = true) (ws : List Jvm.Cond) (q1 : Int64) (q2 : Int64) (p3 : Int32) (h0 : Heap) (n0 : Nat) (Z0 : n0 ≤ h0.size) (hc23 : ¬ ((p3 &&& (3 : Int32)) = (1 : Int32))) (hc42 : (p3 &&& (3 : Int32)) = (2 : Int32)) (hc67 : (own_adds q1 (((-9223372036854775808 : Int64) - q1) + ((((p3 >>> ((2 : Int32) &&& 31)) &&& (3 : Int32)).toInt64) - (1 : Int64)))) = (own_exp q1 (((-9223372036854775808 : Int64) - q1) + ((((p3 >>> ((2 : Int32) &&& 31)) &&& (3 : Int32)).toInt64) - (1 : Int64))))) :
    MetFree l x (head1 (Jvm.Cond.code x code maxLocals ret :: ws) room_1) (fun a U => a = #[(.long q1), (.long q2), (.int p3)] ∧ Z.Warmed39 U.vm ∧ U.heap = h0) (fun _ _ _ _ _ => True) (fun _ U o U' => ∃ v L, o = .returned v ∧ Q0 Z q1 q2 p3 h0 n0 v U'.heap L ∧ FrameEnd U o U' L room_1.cells room_1.slots) := by
  refine MetFree.of_bodySF (plainFor_of_name pn_0) hisR ?_
  intro p e s m args below meth c s₁ Bd hml0 hP hK
  obtain ⟨rfl, hZ, hh⟩ := hP
  have hx := Bd.exec
  have hby := Bd.bytes
  have hml : c.maxLocals = 10 := hml0
  have hown : s.vm.findClass "com/example/tab30/tab30/money/MoneyAddsWithinLongPinLaw" = some m.cls := findClass_of_methodNamed Bd.named
  have hnm := (name_of_methodNamed Bd.named Bd.method).1
  have X0 : Stand p l e room_1 s m #[(.long q1), (.long q2), (.int p3)] below meth c s₁ [] 0 0 := Stand.of_body Bd
  have e0 : s₁.heap = h0 := by rw [← hh, Bd.state]; rfl
  have N0 := Fr.nil n0
  have pre0 : ∀ t, Steps p.tables e below (s₁.setTop (mkF m 0 #[.val (.long q1), .second, .val (.long q2), .second, .val (.int p3), .unset, .unset, .unset, .unset, .unset] [])) t → Steps p.tables e below (s₁.setTop (entryFrame m #[(.long q1), (.long q2), (.int p3)] maxLocals)) t := fun t k => castTop (ef_0 m q1 q2 p3) k
  obtain ⟨_, _, ⟨T4, L4, k4, n4⟩, -, X4, ⟨Lc4, hQ4, l4, y4, z4⟩, st4⟩ := Jvm.LawKit.callS X0 hx (y := (⟨"com/example/tab30/tab30/money/Money", "addsWithinLong", "(JJ)Z"⟩ : MethodName)) hown (mvT hZ (hw _ (List.mem_of_getElem? (i := 0) rfl))) (mvT hZ (hw _ (List.mem_of_getElem? (i := 1) rfl))) (mvT hZ (hw _ (List.mem_of_getElem? (i := 2) rfl))) (mvT hZ (hw _ (List.mem_of_getElem? (i := 3) rfl))) (by decide) (backOf (W := 0) (rm1 l Z a0 hw [] q1 (((-9223372036854775808 : Int64) - q1) + ((((p3 >>> ((2 : Int32) &&& 31)) &&& (3 : Int32)).toInt64) - (1 : Int64))) h0 n0 Z0) hZ (hw _ (List.mem_of_getElem? (i := 3) rfl)) (hw _ (List.mem_of_getElem? (i := 2) rfl)) (by decide) (by decide)) (g := (mkF m 58 #[.val (.long q1), .second, .val (.long q2), .second, .val (.int p3), .val (.int (p3 &&& (3 : Int32))), .val (.long ((((p3 >>> ((2 : Int32) &&& 31)) &&& (3 : Int32)).toInt64) - (1 : Int64))), .second, .val (.long (((-9223372036854775808 : Int64) - q1) + ((((p3 >>> ((2 : Int32) &&& 31)) &&& (3 : Int32)).toInt64) - (1 : Int64)))), .second] [(.long (((-9223372036854775808 : Int64) - q1) + ((((p3 >>> ((2 : Int32) &&& 31)) &&& (3 : Int32)).toInt64) - (1 : Int64)))), (.long q1)])) rfl (by rw [hml]; rfl) (argsL := [(.long q1), (.long (((-9223372036854775808 : Int64) - q1) + ((((p3 >>> ((2 : Int32) &&& 31)) &&& (3 : Int32)).toInt64) - (1 : Int64))))]) (rest := []) (lenOf pd_0_0 rfl) rfl (by show 2 * 0 + _ ≤ _; exact Nat.le_of_eq rfl) (hb hby at_58) (fun _ _ => ⟨rfl, e0, (by decide : 0 + 0 ≤ _), (by decide : 0 + 0 ≤ _)⟩)
  dsimp only [Pt.U, Pt.locs, Pt.cells, Pt.slots] at X4 l4 y4 z4 st4 hQ4
  subst l4 y4 z4
  obtain ⟨rfl, N4q, h4q⟩ := hQ4
  have Zc4 : n0 ≤ T4.heap.size := by rw [h4q]; exact Z0
  have N4 := Fr.app N0 N4q
  obtain ⟨_, _, ⟨T5, L5, k5, n5⟩, -, X5, ⟨Lc5, hQ5, l5, y5, z5⟩, st5⟩ := Jvm.LawKit.callS X4 hx (y := (⟨"com/example/tab30/tab30/money/MoneyAddsWithinLongPinLaw", "expected", "(JJ)Z"⟩ : MethodName)) hown (mvT hZ (hw _ (List.mem_of_getElem? (i := 4) rfl))) (mvT hZ (hw _ (List.mem_of_getElem? (i := 5) rfl))) (mvT hZ (hw _ (List.mem_of_getElem? (i := 6) rfl))) (mvT hZ (hw _ (List.mem_of_getElem? (i := 7) rfl))) (by decide) (backOf (W := 1) (rm2 l Z a0 hw [] q1 (((-9223372036854775808 : Int64) - q1) + ((((p3 >>> ((2 : Int32) &&& 31)) &&& (3 : Int32)).toInt64) - (1 : Int64))) T4.heap n0 Zc4) hZ (hw _ (List.mem_of_getElem? (i := 7) rfl)) (hw _ (List.mem_of_getElem? (i := 6) rfl)) (by decide) (by decide)) (g := (mkF m 64 #[.val (.long q1), .second, .val (.long q2), .second, .val (.int p3), .val (.int (p3 &&& (3 : Int32))), .val (.long ((((p3 >>> ((2 : Int32) &&& 31)) &&& (3 : Int32)).toInt64) - (1 : Int64))), .second, .val (.long (((-9223372036854775808 : Int64) - q1) + ((((p3 >>> ((2 : Int32) &&& 31)) &&& (3 : Int32)).toInt64) - (1 : Int64)))), .second] [(.long (((-9223372036854775808 : Int64) - q1) + ((((p3 >>> ((2 : Int32) &&& 31)) &&& (3 : Int32)).toInt64) - (1 : Int64)))), (.long q1), (.int (own_adds q1 (((-9223372036854775808 : Int64) - q1) + ((((p3 >>> ((2 : Int32) &&& 31)) &&& (3 : Int32)).toInt64) - (1 : Int64)))))])) rfl (by rw [hml]; rfl) (argsL := [(.long q1), (.long (((-9223372036854775808 : Int64) - q1) + ((((p3 >>> ((2 : Int32) &&& 31)) &&& (3 : Int32)).toInt64) - (1 : Int64))))]) (rest := [(.int (own_adds q1 (((-9223372036854775808 : Int64) - q1) + ((((p3 >>> ((2 : Int32) &&& 31)) &&& (3 : Int32)).toInt64) - (1 : Int64)))))]) (lenOf pd_0_0 rfl) rfl (by show 2 * 0 + _ ≤ _; exact Nat.le_of_eq rfl) (hb hby at_64) (fun _ _ => ⟨rfl, rfl, (by decide : 0 + 0 ≤ _), (by decide : 0 + 0 ≤ _)⟩)
  dsimp only [Pt.U, Pt.locs, Pt.cells, Pt.slots] at X5 l5 y5 z5 st5 hQ5
  subst l5 y5 z5
  obtain ⟨rfl, N5q, h5q⟩ := hQ5
  have Zc5 : n0 ≤ T5.heap.size := by rw [h5q]; exact Zc4
  have N5 := Fr.app N4 N5q
  obtain ⟨fs, hr, hrun, hended, hW, hsame⟩ := X5.leave (v := some (.int (1 : Int32))) (fun h => by rw [Bd.returns] at h; cases h)
  refine ⟨_, _, pre0 _ ?_, hrun, hended, _, _, rfl, ?_, ⟨_, rfl⟩, hW, hsame.mono (by decide) (by decide)⟩
  · show Steps p.tables e below (s₁.setTop (mkF m 0 #[.val (.long q1), .second, .val (.long q2), .second, .val (.int p3), .unset, .unset, .unset, .unset, .unset] [])) _
    refine XS.iload X0.here hx rfl (hb hby at_0) rfl ?_
    show Steps p.tables e below (s₁.setTop (mkF m 2 #[.val (.long q1), .second, .val (.long q2), .second, .val (.int p3), .unset, .unset, .unset, .unset, .unset] [(.int p3)])) _
    refine XS.iconst X0.here hx rfl (hb hby at_2) ?_
    show Steps p.tables e below (s₁.setTop (mkF m 3 #[.val (.long q1), .second, .val (.long q2), .second, .val (.int p3), .unset, .unset, .unset, .unset, .unset] [(.int (3 : Int32)), (.int p3)])) _
    refine XS.iand X0.here hx rfl (hb hby at_3) rfl ?_
    show Steps p.tables e below (s₁.setTop (mkF m 4 #[.val (.long q1), .second, .val (.long q2), .second, .val (.int p3), .unset, .unset, .unset, .unset, .unset] [(.int (p3 &&& (3 : Int32)))])) _
    refine XS.istore X0.here hx rfl (hb hby at_4) rfl (l' := #[.val (.long q1), .second, .val (.long q2), .second, .val (.int p3), .val (.int (p3 &&& (3 : Int32))), .unset, .unset, .unset, .unset]) rfl ?_
    show Steps p.tables e below (s₁.setTop (mkF m 6 #[.val (.long q1), .second, .val (.long q2), .second, .val (.int p3), .val (.int (p3 &&& (3 : Int32))), .unset, .unset, .unset, .unset] [])) _
    refine XS.iload X0.here hx rfl (hb hby at_6) rfl ?_
    show Steps p.tables e below (s₁.setTop (mkF m 8 #[.val (.long q1), .second, .val (.long q2), .second, .val (.int p3), .val (.int (p3 &&& (3 : Int32))), .unset, .unset, .unset, .unset] [(.int p3)])) _
    refine XS.iconst X0.here hx rfl (hb hby at_8) ?_
    show Steps p.tables e below (s₁.setTop (mkF m 9 #[.val (.long q1), .second, .val (.long q2), .second, .val (.int p3), .val (.int (p3 &&& (3 : Int32))), .unset, .unset, .unset, .unset] [(.int (2 : Int32)), (.int p3)])) _
    refine XS.ishr X0.here hx rfl (hb hby at_9) rfl ?_
    show Steps p.tables e below (s₁.setTop (mkF m 10 #[.val (.long q1), .second, .val (.long q2), .second, .val (.int p3), .val (.int (p3 &&& (3 : Int32))), .unset, .unset, .unset, .unset] [(.int (p3 >>> ((2 : Int32) &&& 31)))])) _
    refine XS.iconst X0.here hx rfl (hb hby at_10) ?_
    show Steps p.tables e below (s₁.setTop (mkF m 11 #[.val (.long q1), .second, .val (.long q2), .second, .val (.int p3), .val (.int (p3 &&& (3 : Int32))), .unset, .unset, .unset, .unset] [(.int (3 : Int32)), (.int (p3 >>> ((2 : Int32) &&& 31)))])) _
    refine XS.iand X0.here hx rfl (hb hby at_11) rfl ?_
    show Steps p.tables e below (s₁.setTop (mkF m 12 #[.val (.long q1), .second, .val (.long q2), .second, .val (.int p3), .val (.int (p3 &&& (3 : Int32))), .unset, .unset, .unset, .unset] [(.int ((p3 >>> ((2 : Int32) &&& 31)) &&& (3 : Int32)))])) _
    refine XS.i2l X0.here hx rfl (hb hby at_12) rfl ?_
    show Steps p.tables e below (s₁.setTop (mkF m 13 #[.val (.long q1), .second, .val (.long q2), .second, .val (.int p3), .val (.int (p3 &&& (3 : Int32))), .unset, .unset, .unset, .unset] [(.long (((p3 >>> ((2 : Int32) &&& 31)) &&& (3 : Int32)).toInt64))])) _
    refine XS.lconst X0.here hx rfl (hb hby at_13) ?_
    show Steps p.tables e below (s₁.setTop (mkF m 14 #[.val (.long q1), .second, .val (.long q2), .second, .val (.int p3), .val (.int (p3 &&& (3 : Int32))), .unset, .unset, .unset, .unset] [(.long (1 : Int64)), (.long (((p3 >>> ((2 : Int32) &&& 31)) &&& (3 : Int32)).toInt64))])) _
    refine XS.lsub X0.here hx rfl (hb hby at_14) rfl ?_
    show Steps p.tables e below (s₁.setTop (mkF m 15 #[.val (.long q1), .second, .val (.long q2), .second, .val (.int p3), .val (.int (p3 &&& (3 : Int32))), .unset, .unset, .unset, .unset] [(.long ((((p3 >>> ((2 : Int32) &&& 31)) &&& (3 : Int32)).toInt64) - (1 : Int64)))])) _
    refine XS.lstore X0.here hx rfl (hb hby at_15) rfl (l' := #[.val (.long q1), .second, .val (.long q2), .second, .val (.int p3), .val (.int (p3 &&& (3 : Int32))), .val (.long ((((p3 >>> ((2 : Int32) &&& 31)) &&& (3 : Int32)).toInt64) - (1 : Int64))), .second, .unset, .unset]) rfl ?_
    show Steps p.tables e below (s₁.setTop (mkF m 17 #[.val (.long q1), .second, .val (.long q2), .second, .val (.int p3), .val (.int (p3 &&& (3 : Int32))), .val (.long ((((p3 >>> ((2 : Int32) &&& 31)) &&& (3 : Int32)).toInt64) - (1 : Int64))), .second, .unset, .unset] [])) _
    refine XS.lloadN X0.here hx rfl (hb hby at_17) rfl ?_
    show Steps p.tables e below (s₁.setTop (mkF m 18 #[.val (.long q1), .second, .val (.long q2), .second, .val (.int p3), .val (.int (p3 &&& (3 : Int32))), .val (.long ((((p3 >>> ((2 : Int32) &&& 31)) &&& (3 : Int32)).toInt64) - (1 : Int64))), .second, .unset, .unset] [(.long q2)])) _
    refine XS.lstore X0.here hx rfl (hb hby at_18) rfl (l' := #[.val (.long q1), .second, .val (.long q2), .second, .val (.int p3), .val (.int (p3 &&& (3 : Int32))), .val (.long ((((p3 >>> ((2 : Int32) &&& 31)) &&& (3 : Int32)).toInt64) - (1 : Int64))), .second, .val (.long q2), .second]) rfl ?_
    show Steps p.tables e below (s₁.setTop (mkF m 20 #[.val (.long q1), .second, .val (.long q2), .second, .val (.int p3), .val (.int (p3 &&& (3 : Int32))), .val (.long ((((p3 >>> ((2 : Int32) &&& 31)) &&& (3 : Int32)).toInt64) - (1 : Int64))), .second, .val (.long q2), .second] [])) _
    refine XS.iload X0.here hx rfl (hb hby at_20) rfl ?_
    show Steps p.tables e below (s₁.setTop (mkF m 22 #[.val (.long q1), .second, .val (.long q2), .second, .val (.int p3), .val (.int (p3 &&& (3 : Int32))), .val (.long ((((p3 >>> ((2 : Int32) &&& 31)) &&& (3 : Int32)).toInt64) - (1 : Int64))), .second, .val (.long q2), .second] [(.int (p3 &&& (3 : Int32)))])) _
    refine XS.iconst X0.here hx rfl (hb hby at_22) ?_
    show Steps p.tables e below (s₁.setTop (mkF m 23 #[.val (.long q1), .second, .val (.long q2), .second, .val (.int p3), .val (.int (p3 &&& (3 : Int32))), .val (.long ((((p3 >>> ((2 : Int32) &&& 31)) &&& (3 : Int32)).toInt64) - (1 : Int64))), .second, .val (.long q2), .second] [(.int (1 : Int32)), (.int (p3 &&& (3 : Int32)))])) _
    refine XS.icmpYes X0.here hx rfl (pc0 := 23) (pc' := 39) rfl (hb hby at_23) rfl (feq hc23).2 (by decide) (by decide) ?_
    show Steps p.tables e below (s₁.setTop (mkF m 39 #[.val (.long q1), .second, .val (.long q2), .second, .val (.int p3), .val (.int (p3 &&& (3 : Int32))), .val (.long ((((p3 >>> ((2 : Int32) &&& 31)) &&& (3 : Int32)).toInt64) - (1 : Int64))), .second, .val (.long q2), .second] [])) _
    refine XS.iload X0.here hx rfl (hb hby at_39) rfl ?_
    show Steps p.tables e below (s₁.setTop (mkF m 41 #[.val (.long q1), .second, .val (.long q2), .second, .val (.int p3), .val (.int (p3 &&& (3 : Int32))), .val (.long ((((p3 >>> ((2 : Int32) &&& 31)) &&& (3 : Int32)).toInt64) - (1 : Int64))), .second, .val (.long q2), .second] [(.int (p3 &&& (3 : Int32)))])) _
    refine XS.iconst X0.here hx rfl (hb hby at_41) ?_
    show Steps p.tables e below (s₁.setTop (mkF m 42 #[.val (.long q1), .second, .val (.long q2), .second, .val (.int p3), .val (.int (p3 &&& (3 : Int32))), .val (.long ((((p3 >>> ((2 : Int32) &&& 31)) &&& (3 : Int32)).toInt64) - (1 : Int64))), .second, .val (.long q2), .second] [(.int (2 : Int32)), (.int (p3 &&& (3 : Int32)))])) _
    refine XS.icmpNo X0.here hx rfl (hb hby at_42) rfl (teq hc42).2 ?_
    show Steps p.tables e below (s₁.setTop (mkF m 45 #[.val (.long q1), .second, .val (.long q2), .second, .val (.int p3), .val (.int (p3 &&& (3 : Int32))), .val (.long ((((p3 >>> ((2 : Int32) &&& 31)) &&& (3 : Int32)).toInt64) - (1 : Int64))), .second, .val (.long q2), .second] [])) _
    refine X0.ldc2Long hx hown (mvT hZ (hw _ (List.mem_of_getElem? (i := 9) rfl))) (g := (mkF m 45 #[.val (.long q1), .second, .val (.long q2), .second, .val (.int p3), .val (.int (p3 &&& (3 : Int32))), .val (.long ((((p3 >>> ((2 : Int32) &&& 31)) &&& (3 : Int32)).toInt64) - (1 : Int64))), .second, .val (.long q2), .second] [])) rfl (hb hby at_45) _ ?_
    show Steps p.tables e below (s₁.setTop (mkF m 48 #[.val (.long q1), .second, .val (.long q2), .second, .val (.int p3), .val (.int (p3 &&& (3 : Int32))), .val (.long ((((p3 >>> ((2 : Int32) &&& 31)) &&& (3 : Int32)).toInt64) - (1 : Int64))), .second, .val (.long q2), .second] [(.long (-9223372036854775808 : Int64))])) _
    refine XS.lloadN X0.here hx rfl (hb hby at_48) rfl ?_
    show Steps p.tables e below (s₁.setTop (mkF m 49 #[.val (.long q1), .second, .val (.long q2), .second, .val (.int p3), .val (.int (p3 &&& (3 : Int32))), .val (.long ((((p3 >>> ((2 : Int32) &&& 31)) &&& (3 : Int32)).toInt64) - (1 : Int64))), .second, .val (.long q2), .second] [(.long q1), (.long (-9223372036854775808 : Int64))])) _
    refine XS.lsub X0.here hx rfl (hb hby at_49) rfl ?_
    show Steps p.tables e below (s₁.setTop (mkF m 50 #[.val (.long q1), .second, .val (.long q2), .second, .val (.int p3), .val (.int (p3 &&& (3 : Int32))), .val (.long ((((p3 >>> ((2 : Int32) &&& 31)) &&& (3 : Int32)).toInt64) - (1 : Int64))), .second, .val (.long q2), .second] [(.long ((-9223372036854775808 : Int64) - q1))])) _
    refine XS.lload X0.here hx rfl (hb hby at_50) rfl ?_
    show Steps p.tables e below (s₁.setTop (mkF m 52 #[.val (.long q1), .second, .val (.long q2), .second, .val (.int p3), .val (.int (p3 &&& (3 : Int32))), .val (.long ((((p3 >>> ((2 : Int32) &&& 31)) &&& (3 : Int32)).toInt64) - (1 : Int64))), .second, .val (.long q2), .second] [(.long ((((p3 >>> ((2 : Int32) &&& 31)) &&& (3 : Int32)).toInt64) - (1 : Int64))), (.long ((-9223372036854775808 : Int64) - q1))])) _
    refine XS.ladd X0.here hx rfl (hb hby at_52) rfl ?_
    show Steps p.tables e below (s₁.setTop (mkF m 53 #[.val (.long q1), .second, .val (.long q2), .second, .val (.int p3), .val (.int (p3 &&& (3 : Int32))), .val (.long ((((p3 >>> ((2 : Int32) &&& 31)) &&& (3 : Int32)).toInt64) - (1 : Int64))), .second, .val (.long q2), .second] [(.long (((-9223372036854775808 : Int64) - q1) + ((((p3 >>> ((2 : Int32) &&& 31)) &&& (3 : Int32)).toInt64) - (1 : Int64))))])) _
    refine XS.lstore X0.here hx rfl (hb hby at_53) rfl (l' := #[.val (.long q1), .second, .val (.long q2), .second, .val (.int p3), .val (.int (p3 &&& (3 : Int32))), .val (.long ((((p3 >>> ((2 : Int32) &&& 31)) &&& (3 : Int32)).toInt64) - (1 : Int64))), .second, .val (.long (((-9223372036854775808 : Int64) - q1) + ((((p3 >>> ((2 : Int32) &&& 31)) &&& (3 : Int32)).toInt64) - (1 : Int64)))), .second]) rfl ?_
    show Steps p.tables e below (s₁.setTop (mkF m 55 #[.val (.long q1), .second, .val (.long q2), .second, .val (.int p3), .val (.int (p3 &&& (3 : Int32))), .val (.long ((((p3 >>> ((2 : Int32) &&& 31)) &&& (3 : Int32)).toInt64) - (1 : Int64))), .second, .val (.long (((-9223372036854775808 : Int64) - q1) + ((((p3 >>> ((2 : Int32) &&& 31)) &&& (3 : Int32)).toInt64) - (1 : Int64)))), .second] [])) _
    refine XS.lloadN X0.here hx rfl (hb hby at_55) rfl ?_
    show Steps p.tables e below (s₁.setTop (mkF m 56 #[.val (.long q1), .second, .val (.long q2), .second, .val (.int p3), .val (.int (p3 &&& (3 : Int32))), .val (.long ((((p3 >>> ((2 : Int32) &&& 31)) &&& (3 : Int32)).toInt64) - (1 : Int64))), .second, .val (.long (((-9223372036854775808 : Int64) - q1) + ((((p3 >>> ((2 : Int32) &&& 31)) &&& (3 : Int32)).toInt64) - (1 : Int64)))), .second] [(.long q1)])) _
    refine XS.lload X0.here hx rfl (hb hby at_56) rfl ?_
    show Steps p.tables e below (s₁.setTop (mkF m 58 #[.val (.long q1), .second, .val (.long q2), .second, .val (.int p3), .val (.int (p3 &&& (3 : Int32))), .val (.long ((((p3 >>> ((2 : Int32) &&& 31)) &&& (3 : Int32)).toInt64) - (1 : Int64))), .second, .val (.long (((-9223372036854775808 : Int64) - q1) + ((((p3 >>> ((2 : Int32) &&& 31)) &&& (3 : Int32)).toInt64) - (1 : Int64)))), .second] [(.long (((-9223372036854775808 : Int64) - q1) + ((((p3 >>> ((2 : Int32) &&& 31)) &&& (3 : Int32)).toInt64) - (1 : Int64)))), (.long q1)])) _
    refine st4 _ ?_
    show Steps p.tables e below (T4.setTop (mkF m 61 #[.val (.long q1), .second, .val (.long q2), .second, .val (.int p3), .val (.int (p3 &&& (3 : Int32))), .val (.long ((((p3 >>> ((2 : Int32) &&& 31)) &&& (3 : Int32)).toInt64) - (1 : Int64))), .second, .val (.long (((-9223372036854775808 : Int64) - q1) + ((((p3 >>> ((2 : Int32) &&& 31)) &&& (3 : Int32)).toInt64) - (1 : Int64)))), .second] [(.int (own_adds q1 (((-9223372036854775808 : Int64) - q1) + ((((p3 >>> ((2 : Int32) &&& 31)) &&& (3 : Int32)).toInt64) - (1 : Int64)))))])) _
    refine XS.lloadN X4.here hx rfl (hb hby at_61) rfl ?_
    show Steps p.tables e below (T4.setTop (mkF m 62 #[.val (.long q1), .second, .val (.long q2), .second, .val (.int p3), .val (.int (p3 &&& (3 : Int32))), .val (.long ((((p3 >>> ((2 : Int32) &&& 31)) &&& (3 : Int32)).toInt64) - (1 : Int64))), .second, .val (.long (((-9223372036854775808 : Int64) - q1) + ((((p3 >>> ((2 : Int32) &&& 31)) &&& (3 : Int32)).toInt64) - (1 : Int64)))), .second] [(.long q1), (.int (own_adds q1 (((-9223372036854775808 : Int64) - q1) + ((((p3 >>> ((2 : Int32) &&& 31)) &&& (3 : Int32)).toInt64) - (1 : Int64)))))])) _
    refine XS.lload X4.here hx rfl (hb hby at_62) rfl ?_
    show Steps p.tables e below (T4.setTop (mkF m 64 #[.val (.long q1), .second, .val (.long q2), .second, .val (.int p3), .val (.int (p3 &&& (3 : Int32))), .val (.long ((((p3 >>> ((2 : Int32) &&& 31)) &&& (3 : Int32)).toInt64) - (1 : Int64))), .second, .val (.long (((-9223372036854775808 : Int64) - q1) + ((((p3 >>> ((2 : Int32) &&& 31)) &&& (3 : Int32)).toInt64) - (1 : Int64)))), .second] [(.long (((-9223372036854775808 : Int64) - q1) + ((((p3 >>> ((2 : Int32) &&& 31)) &&& (3 : Int32)).toInt64) - (1 : Int64)))), (.long q1), (.int (own_adds q1 (((-9223372036854775808 : Int64) - q1) + ((((p3 >>> ((2 : Int32) &&& 31)) &&& (3 : Int32)).toInt64) - (1 : Int64)))))])) _
    refine st5 _ ?_
    show Steps p.tables e below (T5.setTop (mkF m 67 #[.val (.long q1), .second, .val (.long q2), .second, .val (.int p3), .val (.int (p3 &&& (3 : Int32))), .val (.long ((((p3 >>> ((2 : Int32) &&& 31)) &&& (3 : Int32)).toInt64) - (1 : Int64))), .second, .val (.long (((-9223372036854775808 : Int64) - q1) + ((((p3 >>> ((2 : Int32) &&& 31)) &&& (3 : Int32)).toInt64) - (1 : Int64)))), .second] [(.int (own_exp q1 (((-9223372036854775808 : Int64) - q1) + ((((p3 >>> ((2 : Int32) &&& 31)) &&& (3 : Int32)).toInt64) - (1 : Int64))))), (.int (own_adds q1 (((-9223372036854775808 : Int64) - q1) + ((((p3 >>> ((2 : Int32) &&& 31)) &&& (3 : Int32)).toInt64) - (1 : Int64)))))])) _
    refine XS.icmpNo X5.here hx rfl (hb hby at_67) rfl (teq hc67).2 ?_
    show Steps p.tables e below (T5.setTop (mkF m 70 #[.val (.long q1), .second, .val (.long q2), .second, .val (.int p3), .val (.int (p3 &&& (3 : Int32))), .val (.long ((((p3 >>> ((2 : Int32) &&& 31)) &&& (3 : Int32)).toInt64) - (1 : Int64))), .second, .val (.long (((-9223372036854775808 : Int64) - q1) + ((((p3 >>> ((2 : Int32) &&& 31)) &&& (3 : Int32)).toInt64) - (1 : Int64)))), .second] [])) _
    refine XS.iconst X5.here hx rfl (hb hby at_70) ?_
    show Steps p.tables e below (T5.setTop (mkF m 71 #[.val (.long q1), .second, .val (.long q2), .second, .val (.int p3), .val (.int (p3 &&& (3 : Int32))), .val (.long ((((p3 >>> ((2 : Int32) &&& 31)) &&& (3 : Int32)).toInt64) - (1 : Int64))), .second, .val (.long (((-9223372036854775808 : Int64) - q1) + ((((p3 >>> ((2 : Int32) &&& 31)) &&& (3 : Int32)).toInt64) - (1 : Int64)))), .second] [(.int (1 : Int32))])) _
    refine XS.goto X5.here hx rfl (pc0 := 71) (pc' := 75) rfl (hb hby at_71) (by decide) (by decide) ?_
    show Steps p.tables e below (T5.setTop (mkF m 75 #[.val (.long q1), .second, .val (.long q2), .second, .val (.int p3), .val (.int (p3 &&& (3 : Int32))), .val (.long ((((p3 >>> ((2 : Int32) &&& 31)) &&& (3 : Int32)).toInt64) - (1 : Int64))), .second, .val (.long (((-9223372036854775808 : Int64) - q1) + ((((p3 >>> ((2 : Int32) &&& 31)) &&& (3 : Int32)).toInt64) - (1 : Int64)))), .second] [(.int (1 : Int32))])) _
    exact retN X5 hx (t := .boolean) Bd.returns (by simp) (hb hby at_75) hr
  · show Q0 Z q1 q2 p3 h0 n0 _ T5.heap _
    exact ⟨rfl, N5⟩
set_option maxRecDepth 65536 in
set_option maxHeartbeats 40000000 in
theorem rm0_ttf (l : Launch) (Z : State) (a0 : Array Value) (hw : ∀ d ∈ tables_1, d.before a0 Z = true) (ws : List Jvm.Cond) (q1 : Int64) (q2 : Int64) (p3 : Int32) (h0 : Heap) (n0 : Nat) (Z0 : n0 ≤ h0.size) (hc23 : ¬ ((p3 &&& (3 : Int32)) = (1 : Int32))) (hc42 : ¬ ((p3 &&& (3 : Int32)) = (2 : Int32))) (hc67 : (own_adds q1 q2) = (own_exp q1 q2)) :
    MetFree l x (head1 (Jvm.Cond.code x code maxLocals ret :: ws) room_1) (fun a U => a = #[(.long q1), (.long q2), (.int p3)] ∧ Z.Warmed39 U.vm ∧ U.heap = h0) (fun _ _ _ _ _ => True) (fun _ U o U' => ∃ v L, o = .returned v ∧ Q0 Z q1 q2 p3 h0 n0 v U'.heap L ∧ FrameEnd U o U' L room_1.cells room_1.slots) := by
  refine MetFree.of_bodySF (plainFor_of_name pn_0) hisR ?_
  intro p e s m args below meth c s₁ Bd hml0 hP hK
  obtain ⟨rfl, hZ, hh⟩ := hP
  have hx := Bd.exec
  have hby := Bd.bytes
  have hml : c.maxLocals = 10 := hml0
  have hown : s.vm.findClass "com/example/tab30/tab30/money/MoneyAddsWithinLongPinLaw" = some m.cls := findClass_of_methodNamed Bd.named
  have hnm := (name_of_methodNamed Bd.named Bd.method).1
  have X0 : Stand p l e room_1 s m #[(.long q1), (.long q2), (.int p3)] below meth c s₁ [] 0 0 := Stand.of_body Bd
  have e0 : s₁.heap = h0 := by rw [← hh, Bd.state]; rfl
  have N0 := Fr.nil n0
  have pre0 : ∀ t, Steps p.tables e below (s₁.setTop (mkF m 0 #[.val (.long q1), .second, .val (.long q2), .second, .val (.int p3), .unset, .unset, .unset, .unset, .unset] [])) t → Steps p.tables e below (s₁.setTop (entryFrame m #[(.long q1), (.long q2), (.int p3)] maxLocals)) t := fun t k => castTop (ef_0 m q1 q2 p3) k
  obtain ⟨_, _, ⟨T4, L4, k4, n4⟩, -, X4, ⟨Lc4, hQ4, l4, y4, z4⟩, st4⟩ := Jvm.LawKit.callS X0 hx (y := (⟨"com/example/tab30/tab30/money/Money", "addsWithinLong", "(JJ)Z"⟩ : MethodName)) hown (mvT hZ (hw _ (List.mem_of_getElem? (i := 0) rfl))) (mvT hZ (hw _ (List.mem_of_getElem? (i := 1) rfl))) (mvT hZ (hw _ (List.mem_of_getElem? (i := 2) rfl))) (mvT hZ (hw _ (List.mem_of_getElem? (i := 3) rfl))) (by decide) (backOf (W := 0) (rm1 l Z a0 hw [] q1 q2 h0 n0 Z0) hZ (hw _ (List.mem_of_getElem? (i := 3) rfl)) (hw _ (List.mem_of_getElem? (i := 2) rfl)) (by decide) (by decide)) (g := (mkF m 58 #[.val (.long q1), .second, .val (.long q2), .second, .val (.int p3), .val (.int (p3 &&& (3 : Int32))), .val (.long ((((p3 >>> ((2 : Int32) &&& 31)) &&& (3 : Int32)).toInt64) - (1 : Int64))), .second, .val (.long q2), .second] [(.long q2), (.long q1)])) rfl (by rw [hml]; rfl) (argsL := [(.long q1), (.long q2)]) (rest := []) (lenOf pd_0_0 rfl) rfl (by show 2 * 0 + _ ≤ _; exact Nat.le_of_eq rfl) (hb hby at_58) (fun _ _ => ⟨rfl, e0, (by decide : 0 + 0 ≤ _), (by decide : 0 + 0 ≤ _)⟩)
  dsimp only [Pt.U, Pt.locs, Pt.cells, Pt.slots] at X4 l4 y4 z4 st4 hQ4
  subst l4 y4 z4
  obtain ⟨rfl, N4q, h4q⟩ := hQ4
  have Zc4 : n0 ≤ T4.heap.size := by rw [h4q]; exact Z0
  have N4 := Fr.app N0 N4q
  obtain ⟨_, _, ⟨T5, L5, k5, n5⟩, -, X5, ⟨Lc5, hQ5, l5, y5, z5⟩, st5⟩ := Jvm.LawKit.callS X4 hx (y := (⟨"com/example/tab30/tab30/money/MoneyAddsWithinLongPinLaw", "expected", "(JJ)Z"⟩ : MethodName)) hown (mvT hZ (hw _ (List.mem_of_getElem? (i := 4) rfl))) (mvT hZ (hw _ (List.mem_of_getElem? (i := 5) rfl))) (mvT hZ (hw _ (List.mem_of_getElem? (i := 6) rfl))) (mvT hZ (hw _ (List.mem_of_getElem? (i := 7) rfl))) (by decide) (backOf (W := 1) (rm2 l Z a0 hw [] q1 q2 T4.heap n0 Zc4) hZ (hw _ (List.mem_of_getElem? (i := 7) rfl)) (hw _ (List.mem_of_getElem? (i := 6) rfl)) (by decide) (by decide)) (g := (mkF m 64 #[.val (.long q1), .second, .val (.long q2), .second, .val (.int p3), .val (.int (p3 &&& (3 : Int32))), .val (.long ((((p3 >>> ((2 : Int32) &&& 31)) &&& (3 : Int32)).toInt64) - (1 : Int64))), .second, .val (.long q2), .second] [(.long q2), (.long q1), (.int (own_adds q1 q2))])) rfl (by rw [hml]; rfl) (argsL := [(.long q1), (.long q2)]) (rest := [(.int (own_adds q1 q2))]) (lenOf pd_0_0 rfl) rfl (by show 2 * 0 + _ ≤ _; exact Nat.le_of_eq rfl) (hb hby at_64) (fun _ _ => ⟨rfl, rfl, (by decide : 0 + 0 ≤ _), (by decide : 0 + 0 ≤ _)⟩)
  dsimp only [Pt.U, Pt.locs, Pt.cells, Pt.slots] at X5 l5 y5 z5 st5 hQ5
  subst l5 y5 z5
  obtain ⟨rfl, N5q, h5q⟩ := hQ5
  have Zc5 : n0 ≤ T5.heap.size := by rw [h5q]; exact Zc4
  have N5 := Fr.app N4 N5q
  obtain ⟨fs, hr, hrun, hended, hW, hsame⟩ := X5.leave (v := some (.int (1 : Int32))) (fun h => by rw [Bd.returns] at h; cases h)
  refine ⟨_, _, pre0 _ ?_, hrun, hended, _, _, rfl, ?_, ⟨_, rfl⟩, hW, hsame.mono (by decide) (by decide)⟩
  · show Steps p.tables e below (s₁.setTop (mkF m 0 #[.val (.long q1), .second, .val (.long q2), .second, .val (.int p3), .unset, .unset, .unset, .unset, .unset] [])) _
    refine XS.iload X0.here hx rfl (hb hby at_0) rfl ?_
    show Steps p.tables e below (s₁.setTop (mkF m 2 #[.val (.long q1), .second, .val (.long q2), .second, .val (.int p3), .unset, .unset, .unset, .unset, .unset] [(.int p3)])) _
    refine XS.iconst X0.here hx rfl (hb hby at_2) ?_
    show Steps p.tables e below (s₁.setTop (mkF m 3 #[.val (.long q1), .second, .val (.long q2), .second, .val (.int p3), .unset, .unset, .unset, .unset, .unset] [(.int (3 : Int32)), (.int p3)])) _
    refine XS.iand X0.here hx rfl (hb hby at_3) rfl ?_
    show Steps p.tables e below (s₁.setTop (mkF m 4 #[.val (.long q1), .second, .val (.long q2), .second, .val (.int p3), .unset, .unset, .unset, .unset, .unset] [(.int (p3 &&& (3 : Int32)))])) _
    refine XS.istore X0.here hx rfl (hb hby at_4) rfl (l' := #[.val (.long q1), .second, .val (.long q2), .second, .val (.int p3), .val (.int (p3 &&& (3 : Int32))), .unset, .unset, .unset, .unset]) rfl ?_
    show Steps p.tables e below (s₁.setTop (mkF m 6 #[.val (.long q1), .second, .val (.long q2), .second, .val (.int p3), .val (.int (p3 &&& (3 : Int32))), .unset, .unset, .unset, .unset] [])) _
    refine XS.iload X0.here hx rfl (hb hby at_6) rfl ?_
    show Steps p.tables e below (s₁.setTop (mkF m 8 #[.val (.long q1), .second, .val (.long q2), .second, .val (.int p3), .val (.int (p3 &&& (3 : Int32))), .unset, .unset, .unset, .unset] [(.int p3)])) _
    refine XS.iconst X0.here hx rfl (hb hby at_8) ?_
    show Steps p.tables e below (s₁.setTop (mkF m 9 #[.val (.long q1), .second, .val (.long q2), .second, .val (.int p3), .val (.int (p3 &&& (3 : Int32))), .unset, .unset, .unset, .unset] [(.int (2 : Int32)), (.int p3)])) _
    refine XS.ishr X0.here hx rfl (hb hby at_9) rfl ?_
    show Steps p.tables e below (s₁.setTop (mkF m 10 #[.val (.long q1), .second, .val (.long q2), .second, .val (.int p3), .val (.int (p3 &&& (3 : Int32))), .unset, .unset, .unset, .unset] [(.int (p3 >>> ((2 : Int32) &&& 31)))])) _
    refine XS.iconst X0.here hx rfl (hb hby at_10) ?_
    show Steps p.tables e below (s₁.setTop (mkF m 11 #[.val (.long q1), .second, .val (.long q2), .second, .val (.int p3), .val (.int (p3 &&& (3 : Int32))), .unset, .unset, .unset, .unset] [(.int (3 : Int32)), (.int (p3 >>> ((2 : Int32) &&& 31)))])) _
    refine XS.iand X0.here hx rfl (hb hby at_11) rfl ?_
    show Steps p.tables e below (s₁.setTop (mkF m 12 #[.val (.long q1), .second, .val (.long q2), .second, .val (.int p3), .val (.int (p3 &&& (3 : Int32))), .unset, .unset, .unset, .unset] [(.int ((p3 >>> ((2 : Int32) &&& 31)) &&& (3 : Int32)))])) _
    refine XS.i2l X0.here hx rfl (hb hby at_12) rfl ?_
    show Steps p.tables e below (s₁.setTop (mkF m 13 #[.val (.long q1), .second, .val (.long q2), .second, .val (.int p3), .val (.int (p3 &&& (3 : Int32))), .unset, .unset, .unset, .unset] [(.long (((p3 >>> ((2 : Int32) &&& 31)) &&& (3 : Int32)).toInt64))])) _
    refine XS.lconst X0.here hx rfl (hb hby at_13) ?_
    show Steps p.tables e below (s₁.setTop (mkF m 14 #[.val (.long q1), .second, .val (.long q2), .second, .val (.int p3), .val (.int (p3 &&& (3 : Int32))), .unset, .unset, .unset, .unset] [(.long (1 : Int64)), (.long (((p3 >>> ((2 : Int32) &&& 31)) &&& (3 : Int32)).toInt64))])) _
    refine XS.lsub X0.here hx rfl (hb hby at_14) rfl ?_
    show Steps p.tables e below (s₁.setTop (mkF m 15 #[.val (.long q1), .second, .val (.long q2), .second, .val (.int p3), .val (.int (p3 &&& (3 : Int32))), .unset, .unset, .unset, .unset] [(.long ((((p3 >>> ((2 : Int32) &&& 31)) &&& (3 : Int32)).toInt64) - (1 : Int64)))])) _
    refine XS.lstore X0.here hx rfl (hb hby at_15) rfl (l' := #[.val (.long q1), .second, .val (.long q2), .second, .val (.int p3), .val (.int (p3 &&& (3 : Int32))), .val (.long ((((p3 >>> ((2 : Int32) &&& 31)) &&& (3 : Int32)).toInt64) - (1 : Int64))), .second, .unset, .unset]) rfl ?_
    show Steps p.tables e below (s₁.setTop (mkF m 17 #[.val (.long q1), .second, .val (.long q2), .second, .val (.int p3), .val (.int (p3 &&& (3 : Int32))), .val (.long ((((p3 >>> ((2 : Int32) &&& 31)) &&& (3 : Int32)).toInt64) - (1 : Int64))), .second, .unset, .unset] [])) _
    refine XS.lloadN X0.here hx rfl (hb hby at_17) rfl ?_
    show Steps p.tables e below (s₁.setTop (mkF m 18 #[.val (.long q1), .second, .val (.long q2), .second, .val (.int p3), .val (.int (p3 &&& (3 : Int32))), .val (.long ((((p3 >>> ((2 : Int32) &&& 31)) &&& (3 : Int32)).toInt64) - (1 : Int64))), .second, .unset, .unset] [(.long q2)])) _
    refine XS.lstore X0.here hx rfl (hb hby at_18) rfl (l' := #[.val (.long q1), .second, .val (.long q2), .second, .val (.int p3), .val (.int (p3 &&& (3 : Int32))), .val (.long ((((p3 >>> ((2 : Int32) &&& 31)) &&& (3 : Int32)).toInt64) - (1 : Int64))), .second, .val (.long q2), .second]) rfl ?_
    show Steps p.tables e below (s₁.setTop (mkF m 20 #[.val (.long q1), .second, .val (.long q2), .second, .val (.int p3), .val (.int (p3 &&& (3 : Int32))), .val (.long ((((p3 >>> ((2 : Int32) &&& 31)) &&& (3 : Int32)).toInt64) - (1 : Int64))), .second, .val (.long q2), .second] [])) _
    refine XS.iload X0.here hx rfl (hb hby at_20) rfl ?_
    show Steps p.tables e below (s₁.setTop (mkF m 22 #[.val (.long q1), .second, .val (.long q2), .second, .val (.int p3), .val (.int (p3 &&& (3 : Int32))), .val (.long ((((p3 >>> ((2 : Int32) &&& 31)) &&& (3 : Int32)).toInt64) - (1 : Int64))), .second, .val (.long q2), .second] [(.int (p3 &&& (3 : Int32)))])) _
    refine XS.iconst X0.here hx rfl (hb hby at_22) ?_
    show Steps p.tables e below (s₁.setTop (mkF m 23 #[.val (.long q1), .second, .val (.long q2), .second, .val (.int p3), .val (.int (p3 &&& (3 : Int32))), .val (.long ((((p3 >>> ((2 : Int32) &&& 31)) &&& (3 : Int32)).toInt64) - (1 : Int64))), .second, .val (.long q2), .second] [(.int (1 : Int32)), (.int (p3 &&& (3 : Int32)))])) _
    refine XS.icmpYes X0.here hx rfl (pc0 := 23) (pc' := 39) rfl (hb hby at_23) rfl (feq hc23).2 (by decide) (by decide) ?_
    show Steps p.tables e below (s₁.setTop (mkF m 39 #[.val (.long q1), .second, .val (.long q2), .second, .val (.int p3), .val (.int (p3 &&& (3 : Int32))), .val (.long ((((p3 >>> ((2 : Int32) &&& 31)) &&& (3 : Int32)).toInt64) - (1 : Int64))), .second, .val (.long q2), .second] [])) _
    refine XS.iload X0.here hx rfl (hb hby at_39) rfl ?_
    show Steps p.tables e below (s₁.setTop (mkF m 41 #[.val (.long q1), .second, .val (.long q2), .second, .val (.int p3), .val (.int (p3 &&& (3 : Int32))), .val (.long ((((p3 >>> ((2 : Int32) &&& 31)) &&& (3 : Int32)).toInt64) - (1 : Int64))), .second, .val (.long q2), .second] [(.int (p3 &&& (3 : Int32)))])) _
    refine XS.iconst X0.here hx rfl (hb hby at_41) ?_
    show Steps p.tables e below (s₁.setTop (mkF m 42 #[.val (.long q1), .second, .val (.long q2), .second, .val (.int p3), .val (.int (p3 &&& (3 : Int32))), .val (.long ((((p3 >>> ((2 : Int32) &&& 31)) &&& (3 : Int32)).toInt64) - (1 : Int64))), .second, .val (.long q2), .second] [(.int (2 : Int32)), (.int (p3 &&& (3 : Int32)))])) _
    refine XS.icmpYes X0.here hx rfl (pc0 := 42) (pc' := 55) rfl (hb hby at_42) rfl (feq hc42).2 (by decide) (by decide) ?_
    show Steps p.tables e below (s₁.setTop (mkF m 55 #[.val (.long q1), .second, .val (.long q2), .second, .val (.int p3), .val (.int (p3 &&& (3 : Int32))), .val (.long ((((p3 >>> ((2 : Int32) &&& 31)) &&& (3 : Int32)).toInt64) - (1 : Int64))), .second, .val (.long q2), .second] [])) _
    refine XS.lloadN X0.here hx rfl (hb hby at_55) rfl ?_
    show Steps p.tables e below (s₁.setTop (mkF m 56 #[.val (.long q1), .second, .val (.long q2), .second, .val (.int p3), .val (.int (p3 &&& (3 : Int32))), .val (.long ((((p3 >>> ((2 : Int32) &&& 31)) &&& (3 : Int32)).toInt64) - (1 : Int64))), .second, .val (.long q2), .second] [(.long q1)])) _
    refine XS.lload X0.here hx rfl (hb hby at_56) rfl ?_
    show Steps p.tables e below (s₁.setTop (mkF m 58 #[.val (.long q1), .second, .val (.long q2), .second, .val (.int p3), .val (.int (p3 &&& (3 : Int32))), .val (.long ((((p3 >>> ((2 : Int32) &&& 31)) &&& (3 : Int32)).toInt64) - (1 : Int64))), .second, .val (.long q2), .second] [(.long q2), (.long q1)])) _
    refine st4 _ ?_
    show Steps p.tables e below (T4.setTop (mkF m 61 #[.val (.long q1), .second, .val (.long q2), .second, .val (.int p3), .val (.int (p3 &&& (3 : Int32))), .val (.long ((((p3 >>> ((2 : Int32) &&& 31)) &&& (3 : Int32)).toInt64) - (1 : Int64))), .second, .val (.long q2), .second] [(.int (own_adds q1 q2))])) _
    refine XS.lloadN X4.here hx rfl (hb hby at_61) rfl ?_
    show Steps p.tables e below (T4.setTop (mkF m 62 #[.val (.long q1), .second, .val (.long q2), .second, .val (.int p3), .val (.int (p3 &&& (3 : Int32))), .val (.long ((((p3 >>> ((2 : Int32) &&& 31)) &&& (3 : Int32)).toInt64) - (1 : Int64))), .second, .val (.long q2), .second] [(.long q1), (.int (own_adds q1 q2))])) _
    refine XS.lload X4.here hx rfl (hb hby at_62) rfl ?_
    show Steps p.tables e below (T4.setTop (mkF m 64 #[.val (.long q1), .second, .val (.long q2), .second, .val (.int p3), .val (.int (p3 &&& (3 : Int32))), .val (.long ((((p3 >>> ((2 : Int32) &&& 31)) &&& (3 : Int32)).toInt64) - (1 : Int64))), .second, .val (.long q2), .second] [(.long q2), (.long q1), (.int (own_adds q1 q2))])) _
    refine st5 _ ?_
    show Steps p.tables e below (T5.setTop (mkF m 67 #[.val (.long q1), .second, .val (.long q2), .second, .val (.int p3), .val (.int (p3 &&& (3 : Int32))), .val (.long ((((p3 >>> ((2 : Int32) &&& 31)) &&& (3 : Int32)).toInt64) - (1 : Int64))), .second, .val (.long q2), .second] [(.int (own_exp q1 q2)), (.int (own_adds q1 q2))])) _
    refine XS.icmpNo X5.here hx rfl (hb hby at_67) rfl (teq hc67).2 ?_
    show Steps p.tables e below (T5.setTop (mkF m 70 #[.val (.long q1), .second, .val (.long q2), .second, .val (.int p3), .val (.int (p3 &&& (3 : Int32))), .val (.long ((((p3 >>> ((2 : Int32) &&& 31)) &&& (3 : Int32)).toInt64) - (1 : Int64))), .second, .val (.long q2), .second] [])) _
    refine XS.iconst X5.here hx rfl (hb hby at_70) ?_
    show Steps p.tables e below (T5.setTop (mkF m 71 #[.val (.long q1), .second, .val (.long q2), .second, .val (.int p3), .val (.int (p3 &&& (3 : Int32))), .val (.long ((((p3 >>> ((2 : Int32) &&& 31)) &&& (3 : Int32)).toInt64) - (1 : Int64))), .second, .val (.long q2), .second] [(.int (1 : Int32))])) _
    refine XS.goto X5.here hx rfl (pc0 := 71) (pc' := 75) rfl (hb hby at_71) (by decide) (by decide) ?_
    show Steps p.tables e below (T5.setTop (mkF m 75 #[.val (.long q1), .second, .val (.long q2), .second, .val (.int p3), .val (.int (p3 &&& (3 : Int32))), .val (.long ((((p3 >>> ((2 : Int32) &&& 31)) &&& (3 : Int32)).toInt64) - (1 : Int64))), .second, .val (.long q2), .second] [(.int (1 : Int32))])) _
    exact retN X5 hx (t := .boolean) Bd.returns (by simp) (hb hby at_75) hr
  · show Q0 Z q1 q2 p3 h0 n0 _ T5.heap _
    exact ⟨rfl, N5⟩
theorem own_cases (q1 : Int64) (q2 : Int64) (p3 : Int32) : (((p3 &&& (3 : Int32)) = (1 : Int32)) ∧ ((own_adds q1 (((9223372036854775807 : Int64) - q1) + ((((p3 >>> ((2 : Int32) &&& 31)) &&& (3 : Int32)).toInt64) - (1 : Int64)))) = (own_exp q1 (((9223372036854775807 : Int64) - q1) + ((((p3 >>> ((2 : Int32) &&& 31)) &&& (3 : Int32)).toInt64) - (1 : Int64)))))) ∨
    ((¬ ((p3 &&& (3 : Int32)) = (1 : Int32))) ∧ ((p3 &&& (3 : Int32)) = (2 : Int32)) ∧ ((own_adds q1 (((-9223372036854775808 : Int64) - q1) + ((((p3 >>> ((2 : Int32) &&& 31)) &&& (3 : Int32)).toInt64) - (1 : Int64)))) = (own_exp q1 (((-9223372036854775808 : Int64) - q1) + ((((p3 >>> ((2 : Int32) &&& 31)) &&& (3 : Int32)).toInt64) - (1 : Int64)))))) ∨
    ((¬ ((p3 &&& (3 : Int32)) = (1 : Int32))) ∧ (¬ ((p3 &&& (3 : Int32)) = (2 : Int32))) ∧ ((own_adds q1 q2) = (own_exp q1 q2))) := by
  by_cases h1 : (p3 &&& (3 : Int32)) = (1 : Int32)
  · exact Or.inl ⟨h1, own_eq _ _⟩
  · by_cases h2 : (p3 &&& (3 : Int32)) = (2 : Int32)
    · exact Or.inr (Or.inl ⟨h1, h2, own_eq _ _⟩)
    · exact Or.inr (Or.inr ⟨h1, h2, own_eq _ _⟩)
theorem rm0 (l : Launch) (Z : State) (a0 : Array Value) (hw : ∀ d ∈ tables_1, d.before a0 Z = true) (ws : List Jvm.Cond) (q1 : Int64) (q2 : Int64) (p3 : Int32) (h0 : Heap) (n0 : Nat) (Z0 : n0 ≤ h0.size) :
    MetFree l x (head1 (Jvm.Cond.code x code maxLocals ret :: ws) room_1) (fun a U => a = #[(.long q1), (.long q2), (.int p3)] ∧ Z.Warmed39 U.vm ∧ U.heap = h0) (fun _ _ _ _ _ => True) (fun _ U o U' => ∃ v L, o = .returned v ∧ Q0 Z q1 q2 p3 h0 n0 v U'.heap L ∧ FrameEnd U o U' L room_1.cells room_1.slots) := by
  rcases own_cases q1 q2 p3 with ⟨hc23, hc67⟩ | ⟨hc23, hc42, hc67⟩ | ⟨hc23, hc42, hc67⟩
  · exact rm0_ff l Z a0 hw ws q1 q2 p3 h0 n0 Z0 hc23 hc67
  · exact rm0_tff l Z a0 hw ws q1 q2 p3 h0 n0 Z0 hc23 hc42 hc67
  · exact rm0_ttf l Z a0 hw ws q1 q2 p3 h0 n0 Z0 hc23 hc42 hc67
set_option maxRecDepth 65536 in
set_option maxHeartbeats 40000000 in
theorem comes_1 {Post : Tables → Env → Array Value → State → Outcome → State → Prop} (hpost : ∀ tb e args s v u, (limb_1_1.after args s (.returned v) u = true ∧ limb_1_2.after args s (.returned v) u = true ∧ True) → FrameEnd s (.returned v) u (Jvm.fieldLocs frame_1_writes args s ++ Jvm.arrayLocs frame_1_arrays args s ++ Jvm.staticLocs frame_1_statics s) 0 0 → Post tb e args s (.returned v) u) :
    ArmFor flags0 classFile x code maxLocals ret World_1 tables_1 room_1 Calls_1 rest_1 Pre_1 Post := by
  intro l hfl _ _ p e ha hc hk s m args below hf hA hF happ hP
  obtain ⟨hcalls, hrest, hpre⟩ := hP
  obtain ⟨-, -, -, hnamed, -, -, -, hat⟩ := (Spec.applies_iff hf).mp happ
  obtain ⟨hg, hn⟩ := and_e (Cond.before_iff.mp (show (Jvm.Cond.and given_1 narrow_1).before args s = true from hpre))
  obtain ⟨g6, g7⟩ := and_e hg
  obtain ⟨g8, g9⟩ := and_e g7
  obtain ⟨g10, g11⟩ := and_e g9
  obtain ⟨w0, w1, w2, rfl⟩ : ∃ w0 w1 w2 : Value, args = #[w0, w1, w2] := by
    have hs : args.size = 3 := by simpa [Cond.value, given_1] using g6
    obtain ⟨L⟩ := args
    match L, hs with
    | [w0, w1, w2], _ => exact ⟨w0, w1, w2, rfl⟩
  have hw := fun d (hd : d ∈ tables_1) => atoms_spec (ws := Jvm.Cond.code x code maxLocals ret :: tables_1) hat d (List.mem_cons_of_mem _ hd)
  have hfit : Fit s := fun {y c} hc i hi => by
    obtain ⟨ha, rfl⟩ := Array.getElem?_eq_some_iff.mp hc
    have q := List.all_eq_true.mp ((Array.all_eq_true_iff_forall_mem.mp hF) _ (Array.getElem_mem ha)) i (List.mem_range.mpr hi)
    simpa [Array.getElem?_eq_getElem hi] using q
  obtain ⟨i0, ei0⟩ := isL_v g8
  obtain rfl : w0 = (.long i0) := Option.some.inj ei0
  obtain ⟨i1, ei1⟩ := isL_v g10
  obtain rfl : w1 = (.long i1) := Option.some.inj ei1
  obtain ⟨i2, ei2⟩ := is_v g11
  obtain rfl : w2 = (.int i2) := Option.some.inj ei2
  obtain ⟨n, o, h1, h2, h3, _, L, rfl, ⟨rfl, N⟩, hq⟩ := rm0 l s _ hw tables_1 i0 i1 i2 s.heap s.heap.size (Nat.le_refl _) p e ha hc hk s m _ below hf ((Spec.applies_iff_loose hf).mp happ).1 ⟨rfl, State.Warmed39.refl s, rfl⟩ trivial
  refine ⟨n, _, h1, h2, h3, hpost _ _ _ _ _ _ ⟨Cond.after_iff.mpr rfl, Cond.after_iff.mpr (eq_i res_at (Term.int_eval (1)) rfl), trivial⟩ ⟨hq.1, hq.2.1, (hq.2.2.sift fun y hy => Or.inr (N y hy)).mono (by decide) (by decide)⟩⟩
theorem main_1_1 : Claimed_1_1 := comes_1 fun _ _ _ _ _ _ h hF => ⟨h.1, hF⟩
theorem main_1_2 : Claimed_1_2 := comes_1 fun _ _ _ _ _ _ h hF => ⟨h.2.1, hF⟩
end Jvm.Pilot.@@N@@
namespace Jvm.Pilot.@@N@@
open Jvm Jvm.ClassFile Sem Op Lib Jvm.Free Jvm.Stand Jvm.Pilot.@@N@@.Jvm.D
/-! MADE BY PROGRAM (witnessworld.py) out of the Statement's table words and the real class files: 10 classes; the members and pool entries that the words name. The judged class is class 1, her method 2. -/
namespace start1
open Jvm.ClassFile
def u (s : String) : CpInfo := .utf8 (stringToUtf16 s)
/-- a pool by its gaps: so many unusable entries, then the entry; so many at the end -/
def gap : Nat → List CpInfo → List CpInfo
  | 0, r => r
  | n + 1, r => .unusable :: gap n r
def poolList (es : List (Nat × CpInfo)) (last : Nat) : List CpInfo := es.foldr (fun e r => gap e.1 (e.2 :: r)) (gap last [])
def pool (es : List (Nat × CpInfo)) (last : Nat) : Array CpInfo := ⟨poolList es last⟩
def fileOf (pool : Array CpInfo) (this : Nat) (attrs : Array Attribute := #[]) (ms : Array MethodInfo := #[]) (fl : Nat := 33) (sup : Nat := 0) (ifs : Array Nat := #[]) (fds : Array FieldInfo := #[]) : ClassFile where
  minorVersion := 0
  majorVersion := 65
  constantPool := pool
  accessFlags := fl
  thisClass := this
  superClass := sup
  interfaces := ifs
  fields := fds
  methods := ms
  attributes := attrs
def plain (name : String) (sup : Option ClassId) : Class where
  name := name
  kind := .ordinary
  loader := none
  accessFlags := 33
  super := sup
  interfaces := #[]
  cf := none
  fields := #[]
  methods := #[]
  instanceTypes := #[]
  staticTypes := #[]
  resolved := #[]
  callSites := []
  init := .initialized
  statics := none
  mirror := none

def pool0 : Array CpInfo := pool [(5, u "<init>"), (0, u "()V"), (1, .class_ 10), (1, u "java/lang/Object")] 113

def k0m0 : Method := { name := "<init>", desc := "()V", sig := { parameters := [], returnType := none }, accessFlags := 1, code := none }
/-- java/lang/Object -/
def k0 : Class := { plain "java/lang/Object" none with
  accessFlags := 33
  interfaces := #[]
  cf := some (fileOf pool0 8 #[] #[{ accessFlags := 1, nameIndex := 5, descriptorIndex := 6, attributes := #[] }] 33 0 #[] #[])
  fields := #[]
  methods := #[k0m0]
  instanceTypes := #[]
  staticTypes := #[]
  resolved := Array.replicate 124 none
  statics := none }

def pool1 : Array CpInfo := pool [(2, .class_ 4), (1, u "java/lang/Object"), (0, u "<init>"), (0, u "()V"), (2, .long 9223372036854775807), (1, .long 9223372036854775808), (1, .methodref 14 15), (0, .class_ 16), (0, .nameAndType 17 18), (0, u "com/example/tab30/tab30/money/Money"), (0, u "addsWithinLong"), (0, u "(JJ)Z"), (0, .methodref 20 21), (0, .class_ 22), (0, .nameAndType 23 18), (0, u "com/example/tab30/tab30/money/MoneyAddsWithinLongPinLaw"), (0, u "expected"), (3, u "law"), (0, u "(JJI)Z")] 2

def k1m0 : Method := { name := "<init>", desc := "()V", sig := { parameters := [], returnType := none }, accessFlags := 2, code := none }
def k1c1 : Code := { maxStack := 6, maxLocals := 5, code := method_2_code, exceptionTable := #[], attributes := #[] }
def k1m1 : Method := { name := "expected", desc := "(JJ)Z", sig := { parameters := [.long, .long], returnType := some .boolean }, accessFlags := 10, code := some k1c1 }
def k1c2 : Code := { maxStack := 5, maxLocals := 10, code := code, exceptionTable := #[], attributes := #[] }
def k1m2 : Method := { name := "law", desc := "(JJI)Z", sig := { parameters := [.long, .long, .int], returnType := some .boolean }, accessFlags := 9, code := some k1c2 }
/-- com/example/tab30/tab30/money/MoneyAddsWithinLongPinLaw -/
def k1 : Class := { plain "com/example/tab30/tab30/money/MoneyAddsWithinLongPinLaw" (some 0) with
  accessFlags := 49
  interfaces := #[]
  cf := some (fileOf pool1 20 #[] #[{ accessFlags := 2, nameIndex := 5, descriptorIndex := 6, attributes := #[] }, { accessFlags := 10, nameIndex := 23, descriptorIndex := 18, attributes := #[] }, { accessFlags := 9, nameIndex := 27, descriptorIndex := 28, attributes := #[] }] 49 2 #[] #[])
  fields := #[]
  methods := #[k1m0, k1m1, k1m2]
  instanceTypes := #[]
  staticTypes := #[]
  resolved := Array.replicate 31 none
  statics := none }

def pool2 : Array CpInfo := pool [(1, .class_ 2), (0, u "java/lang/Comparable"), (0, .class_ 4), (0, u "java/lang/Object")] 7

/-- java/lang/Comparable -/
def k2 : Class := { plain "java/lang/Comparable" (some 0) with
  accessFlags := 1537
  interfaces := #[]
  cf := some (fileOf pool2 1 #[] #[] 1537 3 #[] #[])
  fields := #[]
  methods := #[]
  instanceTypes := #[]
  staticTypes := #[]
  resolved := Array.replicate 12 none
  statics := none }

def pool3 : Array CpInfo := pool [(2, .class_ 4), (1, u "java/lang/Object"), (3, .class_ 10), (1, u "com/example/tab30/tab30/money/Money"), (0, u "cents"), (0, u "J"), (2, u "large"), (0, u "Ljava/math/BigDecimal;"), (70, u "addsWithinLong"), (0, u "(JJ)Z"), (81, u "ZERO"), (0, u "Lcom/example/tab30/tab30/money/Money;"), (0, .class_ 173), (0, u "java/lang/Comparable"), (0, u "CENT_DIGITS"), (0, u "I")] 41

def k3c0 : Code := { maxStack := 6, maxLocals := 6, code := prog_127_method_13_code, exceptionTable := #[], attributes := #[] }
def k3m0 : Method := { name := "addsWithinLong", desc := "(JJ)Z", sig := { parameters := [.long, .long], returnType := some .boolean }, accessFlags := 8, code := some k3c0 }
/-- com/example/tab30/tab30/money/Money -/
def k3 : Class := { plain "com/example/tab30/tab30/money/Money" (some 0) with
  accessFlags := 49
  interfaces := #[2]
  cf := some (fileOf pool3 8 #[] #[{ accessFlags := 8, nameIndex := 87, descriptorIndex := 88, attributes := #[] }] 49 2 #[172] #[{ accessFlags := 24, nameIndex := 174, descriptorIndex := 175, attributes := #[] }, { accessFlags := 25, nameIndex := 170, descriptorIndex := 171, attributes := #[] }, { accessFlags := 18, nameIndex := 11, descriptorIndex := 12, attributes := #[] }, { accessFlags := 18, nameIndex := 15, descriptorIndex := 16, attributes := #[] }])
  fields := #[{ name := "CENT_DIGITS", type := .int, accessFlags := 24, slot := 0, constantValue := 0 }, { name := "ZERO", type := (.object "com/example/tab30/tab30/money/Money"), accessFlags := 25, slot := 1, constantValue := 0 }, { name := "cents", type := .long, accessFlags := 18, slot := 0, constantValue := 0 }, { name := "large", type := (.object "java/math/BigDecimal"), accessFlags := 18, slot := 1, constantValue := 0 }]
  methods := #[k3m0]
  instanceTypes := #[.long, (.object "java/math/BigDecimal")]
  staticTypes := #[.int, (.object "com/example/tab30/tab30/money/Money")]
  resolved := Array.replicate 217 none
  statics := none }

def pool4 : Array CpInfo := pool [(1, u "java/lang/Cloneable"), (0, .class_ 1), (0, u "java/lang/Object"), (0, .class_ 3)] 3

/-- java/lang/Cloneable -/
def k4 : Class := { plain "java/lang/Cloneable" (some 0) with
  accessFlags := 1537
  interfaces := #[]
  cf := some (fileOf pool4 2 #[] #[] 1537 4 #[] #[])
  fields := #[]
  methods := #[]
  instanceTypes := #[]
  staticTypes := #[]
  resolved := Array.replicate 8 none
  statics := none }

def pool5 : Array CpInfo := pool [(1, u "java/io/Serializable"), (0, .class_ 1), (0, u "java/lang/Object"), (0, .class_ 3)] 3

/-- java/io/Serializable -/
def k5 : Class := { plain "java/io/Serializable" (some 0) with
  accessFlags := 1537
  interfaces := #[]
  cf := some (fileOf pool5 2 #[] #[] 1537 4 #[] #[])
  fields := #[]
  methods := #[]
  instanceTypes := #[]
  staticTypes := #[]
  resolved := Array.replicate 8 none
  statics := none }

/-- the primitive byte -/
def k6 : Class := { plain "byte" none with kind := .primitive 'B', accessFlags := 0x411 }
/-- [B -/
def k7 : Class := { plain "[B" (some 0) with kind := .array 6 .byte, interfaces := #[4, 5], accessFlags := 1041 }

/-- the primitive int -/
def k8 : Class := { plain "int" none with kind := .primitive 'I', accessFlags := 0x411 }
/-- [I -/
def k9 : Class := { plain "[I" (some 0) with kind := .array 8 .int, interfaces := #[4, 5], accessFlags := 1041 }

def heap : Heap := #[]
def classes : Array Class := #[k0, k1, k2, k3, k4, k5, k6, k7, k8, k9]
def interned : List (Array UInt16 × Addr) := []
def slotsUsed : Nat := 0
def theMethod : MethodId := ⟨1, 2⟩
def args0 : Array Value := #[.long 3, .long 1, .int 2]
def aboutOver (below : List Frame) : State where
  vm := { classes := classes, interned := interned.toArray }
  heap := heap
  slotsUsed := slotsUsed
  threads := #[{ frames := .invoking theMethod args0 :: below }]
def below0 : List Frame := [.native { method := ⟨0, 0⟩, args := #[] }]
def about1 : State := aboutOver below0
def p0 : Program := .bare "" "" ""
def e0 : Env := launch0.env 0 0 0
theorem w_frames : about1.frames = Frame.invoking theMethod args0 :: below0 := rfl
set_option maxRecDepth 65536 in
theorem w_args : argsFit about1.vm theMethod args0 = true := by decide +kernel
set_option maxRecDepth 65536 in
theorem w_heap : heapFits about1 = true := by decide +kernel
set_option maxRecDepth 65536 in
theorem w_runnable : about1.curStatus? = some .runnable := by decide +kernel
set_option maxRecDepth 65536 in
theorem w_alone : about1.alone = true := by decide +kernel
set_option maxRecDepth 65536 in
theorem w_named : about1.methodNamed? x = some theMethod := by decide +kernel
set_option maxRecDepth 65536 in
theorem w_hears : about1.hears theMethod below0 = true := by decide +kernel
set_option maxRecDepth 65536 in
theorem w_ripe : about1.ripe theMethod args0 below0 = true := by decide +kernel
theorem w_running : about1.status = .running := rfl
set_option maxRecDepth 65536 in
theorem w_room : about1.hasRoom e0.platform room_1 = true :=
  launch0.hasRoom_least _ room_1 (by decide +kernel) (by decide +kernel) (by decide +kernel) (by decide +kernel) (by decide +kernel) (by decide +kernel)
theorem allAtoms_all (ts : List Jvm.Cond) (a : Array Jvm.Value) (st : Jvm.State) : (allAtoms ts).before a st = ts.all (fun c => c.before a st) := by
  induction ts with
  | nil => rfl
  | cons c t ih =>
    show (Jvm.Cond.and c (allAtoms t)).before a st = _
    rw [Jvm.Cond.before_and, ih, List.all_cons]
def words1 : List Jvm.Cond := Jvm.Cond.code x code maxLocals ret :: tables_1
/-- a 'code' word, met by the world's own term for the bytes: nothing is compared byte by byte -/
theorem code_word {y : MethodName} {bytes : ByteArray} {mx : Nat} {rt : Option FieldType} {a : Array Value} {s : State} {m : MethodId} {meth : Method} {c : Code} (h1 : s.methodNamed? y = some m) (h2 : s.vm.method? m = some meth) (h3 : meth.code = some c) (h4 : c.code = bytes)
    (h5 : (c.maxLocals == mx && c.exceptionTable.isEmpty && decide (c.maxStack ≤ mostOperands) && decide (meth.sig.returnType = rt) && !meth.locks && decide (parseMethodDescriptor y.desc = some meth.sig)) = true) : (Jvm.Cond.code y bytes mx rt).before a s = true := by
  simp only [Bool.and_eq_true, beq_iff_eq, Bool.not_eq_true', decide_eq_true_eq] at h5
  obtain ⟨⟨⟨⟨⟨g1, g2⟩, g3⟩, g4⟩, g5⟩, g6⟩ := h5
  simp [Cond.before, Cond.holds, Cond.value, h1, h2, h3, h4, g1, g2, g3, g4, g5, g6]
def isCode : Jvm.Cond → Bool
  | .code _ _ _ _ => true
  | _ => false
theorem all_split {L : List Jvm.Cond} {P : Jvm.Cond → Bool} (h1 : L.all (fun c => isCode c || P c) = true) (h2 : ∀ c ∈ L.filter isCode, P c = true) : L.all P = true := by
  refine List.all_eq_true.mpr fun c hc => ?_
  have h := List.all_eq_true.mp h1 c hc
  rcases Bool.eq_false_or_eq_true (isCode c) with hi | hi
  · exact h2 c (List.mem_filter.mpr ⟨hc, hi⟩)
  · simpa [hi] using h
set_option maxRecDepth 65536 in
theorem w_c0 : (Jvm.Cond.code x code maxLocals ret).before args0 about1 = true := code_word (m := ⟨1, 2⟩) (meth := k1m2) (c := k1c2) (by decide +kernel) rfl rfl rfl (by decide +kernel)
set_option maxRecDepth 65536 in
theorem w_c1 : (Jvm.Cond.code ({ cls := "com/example/tab30/tab30/money/Money", name := "addsWithinLong", desc := "(JJ)Z" } : Jvm.MethodName) prog_127_method_13_code (6 : Nat) (Option.some Jvm.ClassFile.FieldType.boolean)).before args0 about1 = true := code_word (m := ⟨3, 0⟩) (meth := k3m0) (c := k3c0) (by decide +kernel) rfl rfl rfl (by decide +kernel)
set_option maxRecDepth 65536 in
theorem w_c2 : (Jvm.Cond.code ({ cls := "com/example/tab30/tab30/money/MoneyAddsWithinLongPinLaw", name := "expected", desc := "(JJ)Z" } : Jvm.MethodName) method_2_code (5 : Nat) (Option.some Jvm.ClassFile.FieldType.boolean)).before args0 about1 = true := code_word (m := ⟨1, 1⟩) (meth := k1m1) (c := k1c1) (by decide +kernel) rfl rfl rfl (by decide +kernel)
def codes1 : List Jvm.Cond := [Jvm.Cond.code x code maxLocals ret, Jvm.Cond.code ({ cls := "com/example/tab30/tab30/money/Money", name := "addsWithinLong", desc := "(JJ)Z" } : Jvm.MethodName) prog_127_method_13_code (6 : Nat) (Option.some Jvm.ClassFile.FieldType.boolean), Jvm.Cond.code ({ cls := "com/example/tab30/tab30/money/MoneyAddsWithinLongPinLaw", name := "expected", desc := "(JJ)Z" } : Jvm.MethodName) method_2_code (5 : Nat) (Option.some Jvm.ClassFile.FieldType.boolean)]
set_option maxRecDepth 65536 in
theorem codes_eq : words1.filter isCode = codes1 := rfl
theorem w_codes : ∀ c ∈ words1.filter isCode, c.before args0 about1 = true := by
  rw [codes_eq]
  intro c hc
  simp only [codes1, List.mem_cons, List.not_mem_nil, or_false] at hc
  rcases hc with rfl | rfl | rfl
  · exact w_c0
  · exact w_c1
  · exact w_c2
set_option maxRecDepth 65536 in
theorem w_t1 : words1.all (fun c => isCode c || c.before args0 about1) = true := by decide +kernel
theorem w_tables : (allAtoms (Jvm.Cond.code x code maxLocals ret :: tables_1)).before args0 about1 = true := by
  rw [allAtoms_all]
  show words1.all (fun c => c.before args0 about1) = true
  refine all_split ?_ w_codes
  rw [w_t1]
set_option maxRecDepth 65536 in
theorem w_case : (Jvm.Cond.and given_1 narrow_1).before args0 about1 = true := by decide +kernel
theorem w_applies : (headSpec (Jvm.Cond.code x code maxLocals ret :: tables_1) room_1).applies x e0.platform about1 = true :=
  (Spec.applies_iff w_frames).mpr ⟨w_running, w_runnable, w_alone, w_named, w_hears, w_ripe, w_room, w_tables⟩
theorem atStart : AtStart classFile x code maxLocals ret World_1 tables_1 room_1 Calls_1 rest_1 Pre_1 launch0 p0 e0 about1 theMethod args0 below0 :=
  ⟨lists_1, trivial, launch0.admits_env _ _ _, launch0.least_env, fairChoices_fair.cas, fairChoices_fair.clock, w_frames, w_args, w_heap, w_applies, trivial, trivial, w_case⟩
end start1
theorem witness_1 : WitnessClaimed_1 := ⟨start1.p0, start1.e0, start1.about1, start1.theMethod, start1.args0, start1.below0, start1.atStart⟩
end Jvm.Pilot.@@N@@
