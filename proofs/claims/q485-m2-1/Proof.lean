import JvmDerived
import JvmDerived.Pilot.@@N@@Statement
import JvmDerived.Pilot.@@N@@Code
set_option linter.unusedVariables false
set_option linter.unusedSimpArgs false
namespace Jvm.RoadKit
open Sem ClassFile Op Lib Jvm.Stand Jvm.Free Jvm.LawKit
section New
variable {p : Program} {l : Launch} {e : Env} {R : Room} {s : State} {m : MethodId} {args : Array Value} {below : List Frame} {meth : Method} {c : Code} {T : State} {locs : List Loc} {cells slots : Nat}
theorem retI (X : Stand p l e R s m args below meth c T locs cells slots) (hx : p.tables.exec = Jvm.exec) {pc : Nat} {Ls : Array Slot} {z : Int32} {rest : List Value} (hret : meth.sig.returnType = some .int) (hd : decode c.code pc = .ok (.ireturn, 1)) {fs : List Frame}
    (hl : ∀ (f : JFrame) (acts : List Action), f.method = m → f.locked = none → f.entered = [] → (doReturn e (T.setTop f) acts (some (.int z))).1 = T.setFrames fs) : Steps p.tables e below (T.setTop (mkF m pc Ls (.int z :: rest))) (T.setFrames fs) := by
  have hm' : T.vm.method? m = some meth := X.method'
  have hn : narrow .int (.int z) = .int z := rfl
  show Steps p.tables e below (T.setTop { method := m, pc := pc, locals := Ls, stack := _ :: rest, locked := none }) _
  jvm_step X.here [X.here.top, hx, hd, hm', hret, hn]
  first | (intro acts; rw [hl _ acts rfl rfl rfl]) | rw [hl _ _ rfl rfl rfl]
  exact Steps.refl _
end New
end Jvm.RoadKit
namespace Jvm.Pilot.@@N@@
open Jvm Jvm.ClassFile Sem Op Lib Jvm.Free Jvm.Stand Jvm.LawKit Jvm.RoadKit Bundle Jvm.Pilot.@@N@@.Jvm.D
def QV (w : Option Value) (h0 : Heap) (n0 : Nat) (v : Option Value) (h : Heap) (L : List Loc) : Prop := v = w ∧ Fr n0 L ∧ h = h0
theorem d1_0 : decode prog_4_method_8_code 0 = .ok (.iload_n 0, 1) := by decide +kernel
theorem d1_1 : decode prog_4_method_8_code 1 = .ok (.i2l, 1) := by decide +kernel
theorem d1_2 : decode prog_4_method_8_code 2 = .ok (.iload_n 1, 1) := by decide +kernel
theorem d1_3 : decode prog_4_method_8_code 3 = .ok (.i2l, 1) := by decide +kernel
theorem d1_4 : decode prog_4_method_8_code 4 = .ok (.lmul, 1) := by decide +kernel
theorem d1_5 : decode prog_4_method_8_code 5 = .ok (.ldc2_w 76, 3) := by decide +kernel
theorem d1_8 : decode prog_4_method_8_code 8 = .ok (.ladd, 1) := by decide +kernel
theorem d1_9 : decode prog_4_method_8_code 9 = .ok (.ldc2_w 78, 3) := by decide +kernel
theorem d1_12 : decode prog_4_method_8_code 12 = .ok (.ldiv, 1) := by decide +kernel
theorem d1_13 : decode prog_4_method_8_code 13 = .ok (.l2i, 1) := by decide +kernel
theorem d1_14 : decode prog_4_method_8_code 14 = .ok (.ireturn, 1) := by decide +kernel
theorem pn_1 : plainName "com/example/cell5/bench/Times" = true := by first | (simp [plainName, overriddenIn]; done) | decide +kernel
theorem ef_1 (m : MethodId) (x0 : Int32) (x1 : Int32) : entryFrame m #[(.int x0), (.int x1)] 2 = mkF m 0 #[.val (.int x0), .val (.int x1)] [] := by first | (simp [entryFrame, mkF, argsToLocals, Value.category]; done) | rfl
set_option maxRecDepth 65536 in
set_option maxHeartbeats 40000000 in
theorem rm1_o (l : Launch) (Z : State) (a0 : Array Value) (hw : ∀ d ∈ tables_1, d.before a0 Z = true) (ws : List Jvm.Cond) (p1 : Int32) (p2 : Int32) (h0 : Heap) (n0 : Nat) (Z0 : n0 ≤ h0.size) (hnz12 : ¬ ((100 : Int64) = (0 : Int64))) :
    MetFree l (⟨"com/example/cell5/bench/Times", "rank", "(II)I"⟩ : MethodName) (head1 (Jvm.Cond.code (⟨"com/example/cell5/bench/Times", "rank", "(II)I"⟩ : MethodName) prog_4_method_8_code 2 (some .int) :: ws) ({ frames := 0, cells := 0, slots := 0, locals := 0 } : Room)) (fun a U => a = #[(.int p1), (.int p2)] ∧ Z.Warmed39 U.vm ∧ U.heap = h0) (fun _ _ _ _ _ => True) (fun _ U o U' => ∃ v L, o = .returned v ∧ QV (some (.int (((((p1.toInt64) * (p2.toInt64)) + (99 : Int64)) / (100 : Int64)).toInt32))) h0 n0 v U'.heap L ∧ FrameEnd U o U' L ({ frames := 0, cells := 0, slots := 0, locals := 0 } : Room).cells ({ frames := 0, cells := 0, slots := 0, locals := 0 } : Room).slots) := by
  refine MetFree.of_bodySF (plainFor_of_name pn_1) hisR ?_
  intro p e s m args below meth c s₁ Bd hml0 hP hK
  obtain ⟨rfl, hZ, hh⟩ := hP
  have hx := Bd.exec
  have hby := Bd.bytes
  have hml : c.maxLocals = 2 := hml0
  have hown : s.vm.findClass "com/example/cell5/bench/Times" = some m.cls := findClass_of_methodNamed Bd.named
  have hnm := (name_of_methodNamed Bd.named Bd.method).1
  have X0 : Stand p l e ({ frames := 0, cells := 0, slots := 0, locals := 0 } : Room) s m #[(.int p1), (.int p2)] below meth c s₁ [] 0 0 := Stand.of_body Bd
  have e0 : s₁.heap = h0 := by rw [← hh, Bd.state]; rfl
  have N0 := Fr.nil n0
  have pre0 : ∀ t, Steps p.tables e below (s₁.setTop (mkF m 0 #[.val (.int p1), .val (.int p2)] [])) t → Steps p.tables e below (s₁.setTop (entryFrame m #[(.int p1), (.int p2)] 2)) t := fun t k => castTop (ef_1 m p1 p2) k

  obtain ⟨fs, hr, hrun, hended, hW, hsame⟩ := X0.leave (v := some (.int (((((p1.toInt64) * (p2.toInt64)) + (99 : Int64)) / (100 : Int64)).toInt32))) (fun h => by rw [Bd.returns] at h; cases h)
  refine ⟨_, _, pre0 _ ?_, hrun, hended, _, _, rfl, ?_, ⟨_, rfl⟩, hW, hsame.mono (by decide) (by decide)⟩
  · show Steps p.tables e below (s₁.setTop (mkF m 0 #[.val (.int p1), .val (.int p2)] [])) _
    refine XS.iloadN X0.here hx rfl (hb hby d1_0) rfl ?_
    show Steps p.tables e below (s₁.setTop (mkF m 1 #[.val (.int p1), .val (.int p2)] [(.int p1)])) _
    refine XS.i2l X0.here hx rfl (hb hby d1_1) rfl ?_
    show Steps p.tables e below (s₁.setTop (mkF m 2 #[.val (.int p1), .val (.int p2)] [(.long (p1.toInt64))])) _
    refine XS.iloadN X0.here hx rfl (hb hby d1_2) rfl ?_
    show Steps p.tables e below (s₁.setTop (mkF m 3 #[.val (.int p1), .val (.int p2)] [(.int p2), (.long (p1.toInt64))])) _
    refine XS.i2l X0.here hx rfl (hb hby d1_3) rfl ?_
    show Steps p.tables e below (s₁.setTop (mkF m 4 #[.val (.int p1), .val (.int p2)] [(.long (p2.toInt64)), (.long (p1.toInt64))])) _
    refine XS.lmul X0.here hx rfl (hb hby d1_4) rfl ?_
    show Steps p.tables e below (s₁.setTop (mkF m 5 #[.val (.int p1), .val (.int p2)] [(.long ((p1.toInt64) * (p2.toInt64)))])) _
    refine X0.ldc2Long hx hown (mvT hZ (hw _ (List.mem_of_getElem? (i := 5) rfl))) (g := (mkF m 5 #[.val (.int p1), .val (.int p2)] [(.long ((p1.toInt64) * (p2.toInt64)))])) rfl (hb hby d1_5) _ ?_
    show Steps p.tables e below (s₁.setTop (mkF m 8 #[.val (.int p1), .val (.int p2)] [(.long (99 : Int64)), (.long ((p1.toInt64) * (p2.toInt64)))])) _
    refine XS.ladd X0.here hx rfl (hb hby d1_8) rfl ?_
    show Steps p.tables e below (s₁.setTop (mkF m 9 #[.val (.int p1), .val (.int p2)] [(.long (((p1.toInt64) * (p2.toInt64)) + (99 : Int64)))])) _
    refine X0.ldc2Long hx hown (mvT hZ (hw _ (List.mem_of_getElem? (i := 6) rfl))) (g := (mkF m 9 #[.val (.int p1), .val (.int p2)] [(.long (((p1.toInt64) * (p2.toInt64)) + (99 : Int64)))])) rfl (hb hby d1_9) _ ?_
    show Steps p.tables e below (s₁.setTop (mkF m 12 #[.val (.int p1), .val (.int p2)] [(.long (100 : Int64)), (.long (((p1.toInt64) * (p2.toInt64)) + (99 : Int64)))])) _
    refine XS.ldiv X0.here hx rfl (hb hby d1_12) rfl hnz12 ?_
    show Steps p.tables e below (s₁.setTop (mkF m 13 #[.val (.int p1), .val (.int p2)] [(.long ((((p1.toInt64) * (p2.toInt64)) + (99 : Int64)) / (100 : Int64)))])) _
    refine XS.l2i X0.here hx rfl (hb hby d1_13) rfl ?_
    show Steps p.tables e below (s₁.setTop (mkF m 14 #[.val (.int p1), .val (.int p2)] [(.int (((((p1.toInt64) * (p2.toInt64)) + (99 : Int64)) / (100 : Int64)).toInt32))])) _
    exact retI X0 hx Bd.returns (hb hby d1_14) hr
  · show QV (some (.int (((((p1.toInt64) * (p2.toInt64)) + (99 : Int64)) / (100 : Int64)).toInt32))) h0 n0 _ s₁.heap _
    rw [e0]
    exact ⟨rfl, N0, rfl⟩
def own_rank (p1 : Int32) (p2 : Int32) : Int32 := (((((p1.toInt64) * (p2.toInt64)) + (99 : Int64)) / (100 : Int64)).toInt32)
theorem rm1 (l : Launch) (Z : State) (a0 : Array Value) (hw : ∀ d ∈ tables_1, d.before a0 Z = true) (ws : List Jvm.Cond) (p1 : Int32) (p2 : Int32) (h0 : Heap) (n0 : Nat) (Z0 : n0 ≤ h0.size) :
    MetFree l (⟨"com/example/cell5/bench/Times", "rank", "(II)I"⟩ : MethodName) (head1 (Jvm.Cond.code (⟨"com/example/cell5/bench/Times", "rank", "(II)I"⟩ : MethodName) prog_4_method_8_code 2 (some .int) :: ws) ({ frames := 0, cells := 0, slots := 0, locals := 0 } : Room)) (fun a U => a = #[(.int p1), (.int p2)] ∧ Z.Warmed39 U.vm ∧ U.heap = h0) (fun _ _ _ _ _ => True) (fun _ U o U' => ∃ v L, o = .returned v ∧ QV (some (.int (own_rank p1 p2))) h0 n0 v U'.heap L ∧ FrameEnd U o U' L ({ frames := 0, cells := 0, slots := 0, locals := 0 } : Room).cells ({ frames := 0, cells := 0, slots := 0, locals := 0 } : Room).slots) := by
  have he : own_rank p1 p2 = (((((p1.toInt64) * (p2.toInt64)) + (99 : Int64)) / (100 : Int64)).toInt32) := by unfold own_rank; rfl
  rw [he]; exact rm1_o l Z a0 hw ws p1 p2 h0 n0 Z0 (by decide)
theorem pn_0 : plainName "com/example/cell5/bench/TimesRankPinLaw" = true := by first | (simp [plainName, overriddenIn]; done) | decide +kernel
theorem pd_0_0 : parseMethodDescriptor "(II)I" = some ⟨[.int, .int], some .int⟩ := by decide +kernel
theorem ef_0 (m : MethodId) (x0 : Int32) (x1 : Int32) : entryFrame m #[(.int x0), (.int x1)] maxLocals = mkF m 0 #[.val (.int x0), .val (.int x1), .unset, .unset, .unset, .unset, .unset, .unset, .unset] [] := by first | (simp [entryFrame, mkF, argsToLocals, Value.category, maxLocals]; done) | rfl
def Q0 (Z : State) (p1 : Int32) (p2 : Int32) (h0 : Heap) (n0 : Nat) (v : Option Value) (h : Heap) (L : List Loc) : Prop := v = some (.int (1 : Int32)) ∧ Fr n0 L
set_option maxRecDepth 65536 in
set_option maxHeartbeats 40000000 in
theorem rm0_ff (l : Launch) (Z : State) (a0 : Array Value) (hw : ∀ d ∈ tables_1, d.before a0 Z = true) (ws : List Jvm.Cond) (p1 : Int32) (p2 : Int32) (h0 : Heap) (n0 : Nat) (Z0 : n0 ≤ h0.size) (hnz11 : ¬ ((101 : Int32) = (0 : Int32))) (hc43 : (lcmpW ((100 : Int64) * (((own_rank (p1 &&& (2147483647 : Int32)) ((p2 &&& (2147483647 : Int32)) % (101 : Int32))).toInt64) - (1 : Int64))) ((((p2 &&& (2147483647 : Int32)) % (101 : Int32)).toInt64) * ((p1 &&& (2147483647 : Int32)).toInt64))) < (0 : Int32)) (hc55 : ¬ ((0 : Int32) < (lcmpW ((((p2 &&& (2147483647 : Int32)) % (101 : Int32)).toInt64) * ((p1 &&& (2147483647 : Int32)).toInt64)) ((100 : Int64) * ((own_rank (p1 &&& (2147483647 : Int32)) ((p2 &&& (2147483647 : Int32)) % (101 : Int32))).toInt64))))) :
    MetFree l x (head1 (Jvm.Cond.code x code maxLocals ret :: ws) room_1) (fun a U => a = #[(.int p1), (.int p2)] ∧ Z.Warmed39 U.vm ∧ U.heap = h0) (fun _ _ _ _ _ => True) (fun _ U o U' => ∃ v L, o = .returned v ∧ Q0 Z p1 p2 h0 n0 v U'.heap L ∧ FrameEnd U o U' L room_1.cells room_1.slots) := by
  refine MetFree.of_bodySF (plainFor_of_name pn_0) hisR ?_
  intro p e s m args below meth c s₁ Bd hml0 hP hK
  obtain ⟨rfl, hZ, hh⟩ := hP
  have hx := Bd.exec
  have hby := Bd.bytes
  have hml : c.maxLocals = 9 := hml0
  have hown : s.vm.findClass "com/example/cell5/bench/TimesRankPinLaw" = some m.cls := findClass_of_methodNamed Bd.named
  have hnm := (name_of_methodNamed Bd.named Bd.method).1
  have X0 : Stand p l e room_1 s m #[(.int p1), (.int p2)] below meth c s₁ [] 0 0 := Stand.of_body Bd
  have e0 : s₁.heap = h0 := by rw [← hh, Bd.state]; rfl
  have N0 := Fr.nil n0
  have pre0 : ∀ t, Steps p.tables e below (s₁.setTop (mkF m 0 #[.val (.int p1), .val (.int p2), .unset, .unset, .unset, .unset, .unset, .unset, .unset] [])) t → Steps p.tables e below (s₁.setTop (entryFrame m #[(.int p1), (.int p2)] maxLocals)) t := fun t k => castTop (ef_0 m p1 p2) k
  obtain ⟨_, _, ⟨T3, L3, k3, n3⟩, -, X3, ⟨Lc3, hQ3, l3, y3, z3⟩, st3⟩ := Jvm.LawKit.callS X0 hx (y := (⟨"com/example/cell5/bench/Times", "rank", "(II)I"⟩ : MethodName)) hown (mvT hZ (hw _ (List.mem_of_getElem? (i := 1) rfl))) (mvT hZ (hw _ (List.mem_of_getElem? (i := 2) rfl))) (mvT hZ (hw _ (List.mem_of_getElem? (i := 3) rfl))) (mvT hZ (hw _ (List.mem_of_getElem? (i := 4) rfl))) (by decide) (backOf (W := 0) (rm1 l Z a0 hw [] (p1 &&& (2147483647 : Int32)) ((p2 &&& (2147483647 : Int32)) % (101 : Int32)) h0 n0 Z0) hZ (hw _ (List.mem_of_getElem? (i := 4) rfl)) (hw _ (List.mem_of_getElem? (i := 3) rfl)) (by decide) (by decide)) (g := (mkF m 15 #[.val (.int p1), .val (.int p2), .val (.int (p1 &&& (2147483647 : Int32))), .val (.int ((p2 &&& (2147483647 : Int32)) % (101 : Int32))), .unset, .unset, .unset, .unset, .unset] [(.int ((p2 &&& (2147483647 : Int32)) % (101 : Int32))), (.int (p1 &&& (2147483647 : Int32)))])) rfl (by rw [hml]; rfl) (argsL := [(.int (p1 &&& (2147483647 : Int32))), (.int ((p2 &&& (2147483647 : Int32)) % (101 : Int32)))]) (rest := []) (lenOf pd_0_0 rfl) rfl (by show 2 * 0 + _ ≤ _; exact Nat.le_of_eq rfl) (hb hby at_15) (fun _ _ => ⟨rfl, e0, (by decide : 0 + 0 ≤ _), (by decide : 0 + 0 ≤ _)⟩)
  dsimp only [Pt.U, Pt.locs, Pt.cells, Pt.slots] at X3 l3 y3 z3 st3 hQ3
  subst l3 y3 z3
  obtain ⟨rfl, N3q, h3q⟩ := hQ3
  have Zc3 : n0 ≤ T3.heap.size := by rw [h3q]; exact Z0
  have N3 := Fr.app N0 N3q
  obtain ⟨fs, hr, hrun, hended, hW, hsame⟩ := X3.leave (v := some (.int (1 : Int32))) (fun h => by rw [Bd.returns] at h; cases h)
  refine ⟨_, _, pre0 _ ?_, hrun, hended, _, _, rfl, ?_, ⟨_, rfl⟩, hW, hsame.mono (by decide) (by decide)⟩
  · show Steps p.tables e below (s₁.setTop (mkF m 0 #[.val (.int p1), .val (.int p2), .unset, .unset, .unset, .unset, .unset, .unset, .unset] [])) _
    refine XS.iloadN X0.here hx rfl (hb hby at_0) rfl ?_
    show Steps p.tables e below (s₁.setTop (mkF m 1 #[.val (.int p1), .val (.int p2), .unset, .unset, .unset, .unset, .unset, .unset, .unset] [(.int p1)])) _
    refine X0.ldcInt hx hown (mvT hZ (hw _ (List.mem_of_getElem? (i := 0) rfl))) (g := (mkF m 1 #[.val (.int p1), .val (.int p2), .unset, .unset, .unset, .unset, .unset, .unset, .unset] [(.int p1)])) rfl (hb hby at_1) _ ?_
    show Steps p.tables e below (s₁.setTop (mkF m 3 #[.val (.int p1), .val (.int p2), .unset, .unset, .unset, .unset, .unset, .unset, .unset] [(.int (2147483647 : Int32)), (.int p1)])) _
    refine XS.iand X0.here hx rfl (hb hby at_3) rfl ?_
    show Steps p.tables e below (s₁.setTop (mkF m 4 #[.val (.int p1), .val (.int p2), .unset, .unset, .unset, .unset, .unset, .unset, .unset] [(.int (p1 &&& (2147483647 : Int32)))])) _
    refine XS.istoreN X0.here hx rfl (hb hby at_4) rfl (l' := #[.val (.int p1), .val (.int p2), .val (.int (p1 &&& (2147483647 : Int32))), .unset, .unset, .unset, .unset, .unset, .unset]) rfl ?_
    show Steps p.tables e below (s₁.setTop (mkF m 5 #[.val (.int p1), .val (.int p2), .val (.int (p1 &&& (2147483647 : Int32))), .unset, .unset, .unset, .unset, .unset, .unset] [])) _
    refine XS.iloadN X0.here hx rfl (hb hby at_5) rfl ?_
    show Steps p.tables e below (s₁.setTop (mkF m 6 #[.val (.int p1), .val (.int p2), .val (.int (p1 &&& (2147483647 : Int32))), .unset, .unset, .unset, .unset, .unset, .unset] [(.int p2)])) _
    refine X0.ldcInt hx hown (mvT hZ (hw _ (List.mem_of_getElem? (i := 0) rfl))) (g := (mkF m 6 #[.val (.int p1), .val (.int p2), .val (.int (p1 &&& (2147483647 : Int32))), .unset, .unset, .unset, .unset, .unset, .unset] [(.int p2)])) rfl (hb hby at_6) _ ?_
    show Steps p.tables e below (s₁.setTop (mkF m 8 #[.val (.int p1), .val (.int p2), .val (.int (p1 &&& (2147483647 : Int32))), .unset, .unset, .unset, .unset, .unset, .unset] [(.int (2147483647 : Int32)), (.int p2)])) _
    refine XS.iand X0.here hx rfl (hb hby at_8) rfl ?_
    show Steps p.tables e below (s₁.setTop (mkF m 9 #[.val (.int p1), .val (.int p2), .val (.int (p1 &&& (2147483647 : Int32))), .unset, .unset, .unset, .unset, .unset, .unset] [(.int (p2 &&& (2147483647 : Int32)))])) _
    refine XS.bipush X0.here hx rfl (hb hby at_9) ?_
    show Steps p.tables e below (s₁.setTop (mkF m 11 #[.val (.int p1), .val (.int p2), .val (.int (p1 &&& (2147483647 : Int32))), .unset, .unset, .unset, .unset, .unset, .unset] [(.int (101 : Int32)), (.int (p2 &&& (2147483647 : Int32)))])) _
    refine iremM X0 hx rfl (hb hby at_11) rfl hnz11 ?_
    show Steps p.tables e below (s₁.setTop (mkF m 12 #[.val (.int p1), .val (.int p2), .val (.int (p1 &&& (2147483647 : Int32))), .unset, .unset, .unset, .unset, .unset, .unset] [(.int ((p2 &&& (2147483647 : Int32)) % (101 : Int32)))])) _
    refine XS.istoreN X0.here hx rfl (hb hby at_12) rfl (l' := #[.val (.int p1), .val (.int p2), .val (.int (p1 &&& (2147483647 : Int32))), .val (.int ((p2 &&& (2147483647 : Int32)) % (101 : Int32))), .unset, .unset, .unset, .unset, .unset]) rfl ?_
    show Steps p.tables e below (s₁.setTop (mkF m 13 #[.val (.int p1), .val (.int p2), .val (.int (p1 &&& (2147483647 : Int32))), .val (.int ((p2 &&& (2147483647 : Int32)) % (101 : Int32))), .unset, .unset, .unset, .unset, .unset] [])) _
    refine XS.iloadN X0.here hx rfl (hb hby at_13) rfl ?_
    show Steps p.tables e below (s₁.setTop (mkF m 14 #[.val (.int p1), .val (.int p2), .val (.int (p1 &&& (2147483647 : Int32))), .val (.int ((p2 &&& (2147483647 : Int32)) % (101 : Int32))), .unset, .unset, .unset, .unset, .unset] [(.int (p1 &&& (2147483647 : Int32)))])) _
    refine XS.iloadN X0.here hx rfl (hb hby at_14) rfl ?_
    show Steps p.tables e below (s₁.setTop (mkF m 15 #[.val (.int p1), .val (.int p2), .val (.int (p1 &&& (2147483647 : Int32))), .val (.int ((p2 &&& (2147483647 : Int32)) % (101 : Int32))), .unset, .unset, .unset, .unset, .unset] [(.int ((p2 &&& (2147483647 : Int32)) % (101 : Int32))), (.int (p1 &&& (2147483647 : Int32)))])) _
    refine st3 _ ?_
    show Steps p.tables e below (T3.setTop (mkF m 18 #[.val (.int p1), .val (.int p2), .val (.int (p1 &&& (2147483647 : Int32))), .val (.int ((p2 &&& (2147483647 : Int32)) % (101 : Int32))), .unset, .unset, .unset, .unset, .unset] [(.int (own_rank (p1 &&& (2147483647 : Int32)) ((p2 &&& (2147483647 : Int32)) % (101 : Int32))))])) _
    refine XS.istore X3.here hx rfl (hb hby at_18) rfl (l' := #[.val (.int p1), .val (.int p2), .val (.int (p1 &&& (2147483647 : Int32))), .val (.int ((p2 &&& (2147483647 : Int32)) % (101 : Int32))), .val (.int (own_rank (p1 &&& (2147483647 : Int32)) ((p2 &&& (2147483647 : Int32)) % (101 : Int32)))), .unset, .unset, .unset, .unset]) rfl ?_
    show Steps p.tables e below (T3.setTop (mkF m 20 #[.val (.int p1), .val (.int p2), .val (.int (p1 &&& (2147483647 : Int32))), .val (.int ((p2 &&& (2147483647 : Int32)) % (101 : Int32))), .val (.int (own_rank (p1 &&& (2147483647 : Int32)) ((p2 &&& (2147483647 : Int32)) % (101 : Int32)))), .unset, .unset, .unset, .unset] [])) _
    refine XS.iloadN X3.here hx rfl (hb hby at_20) rfl ?_
    show Steps p.tables e below (T3.setTop (mkF m 21 #[.val (.int p1), .val (.int p2), .val (.int (p1 &&& (2147483647 : Int32))), .val (.int ((p2 &&& (2147483647 : Int32)) % (101 : Int32))), .val (.int (own_rank (p1 &&& (2147483647 : Int32)) ((p2 &&& (2147483647 : Int32)) % (101 : Int32)))), .unset, .unset, .unset, .unset] [(.int ((p2 &&& (2147483647 : Int32)) % (101 : Int32)))])) _
    refine XS.i2l X3.here hx rfl (hb hby at_21) rfl ?_
    show Steps p.tables e below (T3.setTop (mkF m 22 #[.val (.int p1), .val (.int p2), .val (.int (p1 &&& (2147483647 : Int32))), .val (.int ((p2 &&& (2147483647 : Int32)) % (101 : Int32))), .val (.int (own_rank (p1 &&& (2147483647 : Int32)) ((p2 &&& (2147483647 : Int32)) % (101 : Int32)))), .unset, .unset, .unset, .unset] [(.long (((p2 &&& (2147483647 : Int32)) % (101 : Int32)).toInt64))])) _
    refine XS.iloadN X3.here hx rfl (hb hby at_22) rfl ?_
    show Steps p.tables e below (T3.setTop (mkF m 23 #[.val (.int p1), .val (.int p2), .val (.int (p1 &&& (2147483647 : Int32))), .val (.int ((p2 &&& (2147483647 : Int32)) % (101 : Int32))), .val (.int (own_rank (p1 &&& (2147483647 : Int32)) ((p2 &&& (2147483647 : Int32)) % (101 : Int32)))), .unset, .unset, .unset, .unset] [(.int (p1 &&& (2147483647 : Int32))), (.long (((p2 &&& (2147483647 : Int32)) % (101 : Int32)).toInt64))])) _
    refine XS.i2l X3.here hx rfl (hb hby at_23) rfl ?_
    show Steps p.tables e below (T3.setTop (mkF m 24 #[.val (.int p1), .val (.int p2), .val (.int (p1 &&& (2147483647 : Int32))), .val (.int ((p2 &&& (2147483647 : Int32)) % (101 : Int32))), .val (.int (own_rank (p1 &&& (2147483647 : Int32)) ((p2 &&& (2147483647 : Int32)) % (101 : Int32)))), .unset, .unset, .unset, .unset] [(.long ((p1 &&& (2147483647 : Int32)).toInt64)), (.long (((p2 &&& (2147483647 : Int32)) % (101 : Int32)).toInt64))])) _
    refine XS.lmul X3.here hx rfl (hb hby at_24) rfl ?_
    show Steps p.tables e below (T3.setTop (mkF m 25 #[.val (.int p1), .val (.int p2), .val (.int (p1 &&& (2147483647 : Int32))), .val (.int ((p2 &&& (2147483647 : Int32)) % (101 : Int32))), .val (.int (own_rank (p1 &&& (2147483647 : Int32)) ((p2 &&& (2147483647 : Int32)) % (101 : Int32)))), .unset, .unset, .unset, .unset] [(.long ((((p2 &&& (2147483647 : Int32)) % (101 : Int32)).toInt64) * ((p1 &&& (2147483647 : Int32)).toInt64)))])) _
    refine XS.lstore X3.here hx rfl (hb hby at_25) rfl (l' := #[.val (.int p1), .val (.int p2), .val (.int (p1 &&& (2147483647 : Int32))), .val (.int ((p2 &&& (2147483647 : Int32)) % (101 : Int32))), .val (.int (own_rank (p1 &&& (2147483647 : Int32)) ((p2 &&& (2147483647 : Int32)) % (101 : Int32)))), .val (.long ((((p2 &&& (2147483647 : Int32)) % (101 : Int32)).toInt64) * ((p1 &&& (2147483647 : Int32)).toInt64))), .second, .unset, .unset]) rfl ?_
    show Steps p.tables e below (T3.setTop (mkF m 27 #[.val (.int p1), .val (.int p2), .val (.int (p1 &&& (2147483647 : Int32))), .val (.int ((p2 &&& (2147483647 : Int32)) % (101 : Int32))), .val (.int (own_rank (p1 &&& (2147483647 : Int32)) ((p2 &&& (2147483647 : Int32)) % (101 : Int32)))), .val (.long ((((p2 &&& (2147483647 : Int32)) % (101 : Int32)).toInt64) * ((p1 &&& (2147483647 : Int32)).toInt64))), .second, .unset, .unset] [])) _
    refine XS.iload X3.here hx rfl (hb hby at_27) rfl ?_
    show Steps p.tables e below (T3.setTop (mkF m 29 #[.val (.int p1), .val (.int p2), .val (.int (p1 &&& (2147483647 : Int32))), .val (.int ((p2 &&& (2147483647 : Int32)) % (101 : Int32))), .val (.int (own_rank (p1 &&& (2147483647 : Int32)) ((p2 &&& (2147483647 : Int32)) % (101 : Int32)))), .val (.long ((((p2 &&& (2147483647 : Int32)) % (101 : Int32)).toInt64) * ((p1 &&& (2147483647 : Int32)).toInt64))), .second, .unset, .unset] [(.int (own_rank (p1 &&& (2147483647 : Int32)) ((p2 &&& (2147483647 : Int32)) % (101 : Int32))))])) _
    refine XS.i2l X3.here hx rfl (hb hby at_29) rfl ?_
    show Steps p.tables e below (T3.setTop (mkF m 30 #[.val (.int p1), .val (.int p2), .val (.int (p1 &&& (2147483647 : Int32))), .val (.int ((p2 &&& (2147483647 : Int32)) % (101 : Int32))), .val (.int (own_rank (p1 &&& (2147483647 : Int32)) ((p2 &&& (2147483647 : Int32)) % (101 : Int32)))), .val (.long ((((p2 &&& (2147483647 : Int32)) % (101 : Int32)).toInt64) * ((p1 &&& (2147483647 : Int32)).toInt64))), .second, .unset, .unset] [(.long ((own_rank (p1 &&& (2147483647 : Int32)) ((p2 &&& (2147483647 : Int32)) % (101 : Int32))).toInt64))])) _
    refine XS.lstore X3.here hx rfl (hb hby at_30) rfl (l' := #[.val (.int p1), .val (.int p2), .val (.int (p1 &&& (2147483647 : Int32))), .val (.int ((p2 &&& (2147483647 : Int32)) % (101 : Int32))), .val (.int (own_rank (p1 &&& (2147483647 : Int32)) ((p2 &&& (2147483647 : Int32)) % (101 : Int32)))), .val (.long ((((p2 &&& (2147483647 : Int32)) % (101 : Int32)).toInt64) * ((p1 &&& (2147483647 : Int32)).toInt64))), .second, .val (.long ((own_rank (p1 &&& (2147483647 : Int32)) ((p2 &&& (2147483647 : Int32)) % (101 : Int32))).toInt64)), .second]) rfl ?_
    show Steps p.tables e below (T3.setTop (mkF m 32 #[.val (.int p1), .val (.int p2), .val (.int (p1 &&& (2147483647 : Int32))), .val (.int ((p2 &&& (2147483647 : Int32)) % (101 : Int32))), .val (.int (own_rank (p1 &&& (2147483647 : Int32)) ((p2 &&& (2147483647 : Int32)) % (101 : Int32)))), .val (.long ((((p2 &&& (2147483647 : Int32)) % (101 : Int32)).toInt64) * ((p1 &&& (2147483647 : Int32)).toInt64))), .second, .val (.long ((own_rank (p1 &&& (2147483647 : Int32)) ((p2 &&& (2147483647 : Int32)) % (101 : Int32))).toInt64)), .second] [])) _
    refine X3.ldc2Long hx hown (mvT hZ (hw _ (List.mem_of_getElem? (i := 7) rfl))) (g := (mkF m 32 #[.val (.int p1), .val (.int p2), .val (.int (p1 &&& (2147483647 : Int32))), .val (.int ((p2 &&& (2147483647 : Int32)) % (101 : Int32))), .val (.int (own_rank (p1 &&& (2147483647 : Int32)) ((p2 &&& (2147483647 : Int32)) % (101 : Int32)))), .val (.long ((((p2 &&& (2147483647 : Int32)) % (101 : Int32)).toInt64) * ((p1 &&& (2147483647 : Int32)).toInt64))), .second, .val (.long ((own_rank (p1 &&& (2147483647 : Int32)) ((p2 &&& (2147483647 : Int32)) % (101 : Int32))).toInt64)), .second] [])) rfl (hb hby at_32) _ ?_
    show Steps p.tables e below (T3.setTop (mkF m 35 #[.val (.int p1), .val (.int p2), .val (.int (p1 &&& (2147483647 : Int32))), .val (.int ((p2 &&& (2147483647 : Int32)) % (101 : Int32))), .val (.int (own_rank (p1 &&& (2147483647 : Int32)) ((p2 &&& (2147483647 : Int32)) % (101 : Int32)))), .val (.long ((((p2 &&& (2147483647 : Int32)) % (101 : Int32)).toInt64) * ((p1 &&& (2147483647 : Int32)).toInt64))), .second, .val (.long ((own_rank (p1 &&& (2147483647 : Int32)) ((p2 &&& (2147483647 : Int32)) % (101 : Int32))).toInt64)), .second] [(.long (100 : Int64))])) _
    refine XS.lload X3.here hx rfl (hb hby at_35) rfl ?_
    show Steps p.tables e below (T3.setTop (mkF m 37 #[.val (.int p1), .val (.int p2), .val (.int (p1 &&& (2147483647 : Int32))), .val (.int ((p2 &&& (2147483647 : Int32)) % (101 : Int32))), .val (.int (own_rank (p1 &&& (2147483647 : Int32)) ((p2 &&& (2147483647 : Int32)) % (101 : Int32)))), .val (.long ((((p2 &&& (2147483647 : Int32)) % (101 : Int32)).toInt64) * ((p1 &&& (2147483647 : Int32)).toInt64))), .second, .val (.long ((own_rank (p1 &&& (2147483647 : Int32)) ((p2 &&& (2147483647 : Int32)) % (101 : Int32))).toInt64)), .second] [(.long ((own_rank (p1 &&& (2147483647 : Int32)) ((p2 &&& (2147483647 : Int32)) % (101 : Int32))).toInt64)), (.long (100 : Int64))])) _
    refine XS.lconst X3.here hx rfl (hb hby at_37) ?_
    show Steps p.tables e below (T3.setTop (mkF m 38 #[.val (.int p1), .val (.int p2), .val (.int (p1 &&& (2147483647 : Int32))), .val (.int ((p2 &&& (2147483647 : Int32)) % (101 : Int32))), .val (.int (own_rank (p1 &&& (2147483647 : Int32)) ((p2 &&& (2147483647 : Int32)) % (101 : Int32)))), .val (.long ((((p2 &&& (2147483647 : Int32)) % (101 : Int32)).toInt64) * ((p1 &&& (2147483647 : Int32)).toInt64))), .second, .val (.long ((own_rank (p1 &&& (2147483647 : Int32)) ((p2 &&& (2147483647 : Int32)) % (101 : Int32))).toInt64)), .second] [(.long (1 : Int64)), (.long ((own_rank (p1 &&& (2147483647 : Int32)) ((p2 &&& (2147483647 : Int32)) % (101 : Int32))).toInt64)), (.long (100 : Int64))])) _
    refine XS.lsub X3.here hx rfl (hb hby at_38) rfl ?_
    show Steps p.tables e below (T3.setTop (mkF m 39 #[.val (.int p1), .val (.int p2), .val (.int (p1 &&& (2147483647 : Int32))), .val (.int ((p2 &&& (2147483647 : Int32)) % (101 : Int32))), .val (.int (own_rank (p1 &&& (2147483647 : Int32)) ((p2 &&& (2147483647 : Int32)) % (101 : Int32)))), .val (.long ((((p2 &&& (2147483647 : Int32)) % (101 : Int32)).toInt64) * ((p1 &&& (2147483647 : Int32)).toInt64))), .second, .val (.long ((own_rank (p1 &&& (2147483647 : Int32)) ((p2 &&& (2147483647 : Int32)) % (101 : Int32))).toInt64)), .second] [(.long (((own_rank (p1 &&& (2147483647 : Int32)) ((p2 &&& (2147483647 : Int32)) % (101 : Int32))).toInt64) - (1 : Int64))), (.long (100 : Int64))])) _
    refine XS.lmul X3.here hx rfl (hb hby at_39) rfl ?_
    show Steps p.tables e below (T3.setTop (mkF m 40 #[.val (.int p1), .val (.int p2), .val (.int (p1 &&& (2147483647 : Int32))), .val (.int ((p2 &&& (2147483647 : Int32)) % (101 : Int32))), .val (.int (own_rank (p1 &&& (2147483647 : Int32)) ((p2 &&& (2147483647 : Int32)) % (101 : Int32)))), .val (.long ((((p2 &&& (2147483647 : Int32)) % (101 : Int32)).toInt64) * ((p1 &&& (2147483647 : Int32)).toInt64))), .second, .val (.long ((own_rank (p1 &&& (2147483647 : Int32)) ((p2 &&& (2147483647 : Int32)) % (101 : Int32))).toInt64)), .second] [(.long ((100 : Int64) * (((own_rank (p1 &&& (2147483647 : Int32)) ((p2 &&& (2147483647 : Int32)) % (101 : Int32))).toInt64) - (1 : Int64))))])) _
    refine XS.lload X3.here hx rfl (hb hby at_40) rfl ?_
    show Steps p.tables e below (T3.setTop (mkF m 42 #[.val (.int p1), .val (.int p2), .val (.int (p1 &&& (2147483647 : Int32))), .val (.int ((p2 &&& (2147483647 : Int32)) % (101 : Int32))), .val (.int (own_rank (p1 &&& (2147483647 : Int32)) ((p2 &&& (2147483647 : Int32)) % (101 : Int32)))), .val (.long ((((p2 &&& (2147483647 : Int32)) % (101 : Int32)).toInt64) * ((p1 &&& (2147483647 : Int32)).toInt64))), .second, .val (.long ((own_rank (p1 &&& (2147483647 : Int32)) ((p2 &&& (2147483647 : Int32)) % (101 : Int32))).toInt64)), .second] [(.long ((((p2 &&& (2147483647 : Int32)) % (101 : Int32)).toInt64) * ((p1 &&& (2147483647 : Int32)).toInt64))), (.long ((100 : Int64) * (((own_rank (p1 &&& (2147483647 : Int32)) ((p2 &&& (2147483647 : Int32)) % (101 : Int32))).toInt64) - (1 : Int64))))])) _
    refine XS.lcmp X3.here hx rfl (hb hby at_42) rfl ?_
    show Steps p.tables e below (T3.setTop (mkF m 43 #[.val (.int p1), .val (.int p2), .val (.int (p1 &&& (2147483647 : Int32))), .val (.int ((p2 &&& (2147483647 : Int32)) % (101 : Int32))), .val (.int (own_rank (p1 &&& (2147483647 : Int32)) ((p2 &&& (2147483647 : Int32)) % (101 : Int32)))), .val (.long ((((p2 &&& (2147483647 : Int32)) % (101 : Int32)).toInt64) * ((p1 &&& (2147483647 : Int32)).toInt64))), .second, .val (.long ((own_rank (p1 &&& (2147483647 : Int32)) ((p2 &&& (2147483647 : Int32)) % (101 : Int32))).toInt64)), .second] [(.int (lcmpW ((100 : Int64) * (((own_rank (p1 &&& (2147483647 : Int32)) ((p2 &&& (2147483647 : Int32)) % (101 : Int32))).toInt64) - (1 : Int64))) ((((p2 &&& (2147483647 : Int32)) % (101 : Int32)).toInt64) * ((p1 &&& (2147483647 : Int32)).toInt64))))])) _
    refine XS.ifNo X3.here hx rfl (hb hby at_43) rfl ((if0 _ _).trans (tlt hc43).2.1) ?_
    show Steps p.tables e below (T3.setTop (mkF m 46 #[.val (.int p1), .val (.int p2), .val (.int (p1 &&& (2147483647 : Int32))), .val (.int ((p2 &&& (2147483647 : Int32)) % (101 : Int32))), .val (.int (own_rank (p1 &&& (2147483647 : Int32)) ((p2 &&& (2147483647 : Int32)) % (101 : Int32)))), .val (.long ((((p2 &&& (2147483647 : Int32)) % (101 : Int32)).toInt64) * ((p1 &&& (2147483647 : Int32)).toInt64))), .second, .val (.long ((own_rank (p1 &&& (2147483647 : Int32)) ((p2 &&& (2147483647 : Int32)) % (101 : Int32))).toInt64)), .second] [])) _
    refine XS.lload X3.here hx rfl (hb hby at_46) rfl ?_
    show Steps p.tables e below (T3.setTop (mkF m 48 #[.val (.int p1), .val (.int p2), .val (.int (p1 &&& (2147483647 : Int32))), .val (.int ((p2 &&& (2147483647 : Int32)) % (101 : Int32))), .val (.int (own_rank (p1 &&& (2147483647 : Int32)) ((p2 &&& (2147483647 : Int32)) % (101 : Int32)))), .val (.long ((((p2 &&& (2147483647 : Int32)) % (101 : Int32)).toInt64) * ((p1 &&& (2147483647 : Int32)).toInt64))), .second, .val (.long ((own_rank (p1 &&& (2147483647 : Int32)) ((p2 &&& (2147483647 : Int32)) % (101 : Int32))).toInt64)), .second] [(.long ((((p2 &&& (2147483647 : Int32)) % (101 : Int32)).toInt64) * ((p1 &&& (2147483647 : Int32)).toInt64)))])) _
    refine X3.ldc2Long hx hown (mvT hZ (hw _ (List.mem_of_getElem? (i := 7) rfl))) (g := (mkF m 48 #[.val (.int p1), .val (.int p2), .val (.int (p1 &&& (2147483647 : Int32))), .val (.int ((p2 &&& (2147483647 : Int32)) % (101 : Int32))), .val (.int (own_rank (p1 &&& (2147483647 : Int32)) ((p2 &&& (2147483647 : Int32)) % (101 : Int32)))), .val (.long ((((p2 &&& (2147483647 : Int32)) % (101 : Int32)).toInt64) * ((p1 &&& (2147483647 : Int32)).toInt64))), .second, .val (.long ((own_rank (p1 &&& (2147483647 : Int32)) ((p2 &&& (2147483647 : Int32)) % (101 : Int32))).toInt64)), .second] [(.long ((((p2 &&& (2147483647 : Int32)) % (101 : Int32)).toInt64) * ((p1 &&& (2147483647 : Int32)).toInt64)))])) rfl (hb hby at_48) _ ?_
    show Steps p.tables e below (T3.setTop (mkF m 51 #[.val (.int p1), .val (.int p2), .val (.int (p1 &&& (2147483647 : Int32))), .val (.int ((p2 &&& (2147483647 : Int32)) % (101 : Int32))), .val (.int (own_rank (p1 &&& (2147483647 : Int32)) ((p2 &&& (2147483647 : Int32)) % (101 : Int32)))), .val (.long ((((p2 &&& (2147483647 : Int32)) % (101 : Int32)).toInt64) * ((p1 &&& (2147483647 : Int32)).toInt64))), .second, .val (.long ((own_rank (p1 &&& (2147483647 : Int32)) ((p2 &&& (2147483647 : Int32)) % (101 : Int32))).toInt64)), .second] [(.long (100 : Int64)), (.long ((((p2 &&& (2147483647 : Int32)) % (101 : Int32)).toInt64) * ((p1 &&& (2147483647 : Int32)).toInt64)))])) _
    refine XS.lload X3.here hx rfl (hb hby at_51) rfl ?_
    show Steps p.tables e below (T3.setTop (mkF m 53 #[.val (.int p1), .val (.int p2), .val (.int (p1 &&& (2147483647 : Int32))), .val (.int ((p2 &&& (2147483647 : Int32)) % (101 : Int32))), .val (.int (own_rank (p1 &&& (2147483647 : Int32)) ((p2 &&& (2147483647 : Int32)) % (101 : Int32)))), .val (.long ((((p2 &&& (2147483647 : Int32)) % (101 : Int32)).toInt64) * ((p1 &&& (2147483647 : Int32)).toInt64))), .second, .val (.long ((own_rank (p1 &&& (2147483647 : Int32)) ((p2 &&& (2147483647 : Int32)) % (101 : Int32))).toInt64)), .second] [(.long ((own_rank (p1 &&& (2147483647 : Int32)) ((p2 &&& (2147483647 : Int32)) % (101 : Int32))).toInt64)), (.long (100 : Int64)), (.long ((((p2 &&& (2147483647 : Int32)) % (101 : Int32)).toInt64) * ((p1 &&& (2147483647 : Int32)).toInt64)))])) _
    refine XS.lmul X3.here hx rfl (hb hby at_53) rfl ?_
    show Steps p.tables e below (T3.setTop (mkF m 54 #[.val (.int p1), .val (.int p2), .val (.int (p1 &&& (2147483647 : Int32))), .val (.int ((p2 &&& (2147483647 : Int32)) % (101 : Int32))), .val (.int (own_rank (p1 &&& (2147483647 : Int32)) ((p2 &&& (2147483647 : Int32)) % (101 : Int32)))), .val (.long ((((p2 &&& (2147483647 : Int32)) % (101 : Int32)).toInt64) * ((p1 &&& (2147483647 : Int32)).toInt64))), .second, .val (.long ((own_rank (p1 &&& (2147483647 : Int32)) ((p2 &&& (2147483647 : Int32)) % (101 : Int32))).toInt64)), .second] [(.long ((100 : Int64) * ((own_rank (p1 &&& (2147483647 : Int32)) ((p2 &&& (2147483647 : Int32)) % (101 : Int32))).toInt64))), (.long ((((p2 &&& (2147483647 : Int32)) % (101 : Int32)).toInt64) * ((p1 &&& (2147483647 : Int32)).toInt64)))])) _
    refine XS.lcmp X3.here hx rfl (hb hby at_54) rfl ?_
    show Steps p.tables e below (T3.setTop (mkF m 55 #[.val (.int p1), .val (.int p2), .val (.int (p1 &&& (2147483647 : Int32))), .val (.int ((p2 &&& (2147483647 : Int32)) % (101 : Int32))), .val (.int (own_rank (p1 &&& (2147483647 : Int32)) ((p2 &&& (2147483647 : Int32)) % (101 : Int32)))), .val (.long ((((p2 &&& (2147483647 : Int32)) % (101 : Int32)).toInt64) * ((p1 &&& (2147483647 : Int32)).toInt64))), .second, .val (.long ((own_rank (p1 &&& (2147483647 : Int32)) ((p2 &&& (2147483647 : Int32)) % (101 : Int32))).toInt64)), .second] [(.int (lcmpW ((((p2 &&& (2147483647 : Int32)) % (101 : Int32)).toInt64) * ((p1 &&& (2147483647 : Int32)).toInt64)) ((100 : Int64) * ((own_rank (p1 &&& (2147483647 : Int32)) ((p2 &&& (2147483647 : Int32)) % (101 : Int32))).toInt64))))])) _
    refine XS.ifNo X3.here hx rfl (hb hby at_55) rfl ((if0 _ _).trans (flt hc55).2.2.1) ?_
    show Steps p.tables e below (T3.setTop (mkF m 58 #[.val (.int p1), .val (.int p2), .val (.int (p1 &&& (2147483647 : Int32))), .val (.int ((p2 &&& (2147483647 : Int32)) % (101 : Int32))), .val (.int (own_rank (p1 &&& (2147483647 : Int32)) ((p2 &&& (2147483647 : Int32)) % (101 : Int32)))), .val (.long ((((p2 &&& (2147483647 : Int32)) % (101 : Int32)).toInt64) * ((p1 &&& (2147483647 : Int32)).toInt64))), .second, .val (.long ((own_rank (p1 &&& (2147483647 : Int32)) ((p2 &&& (2147483647 : Int32)) % (101 : Int32))).toInt64)), .second] [])) _
    refine XS.iconst X3.here hx rfl (hb hby at_58) ?_
    show Steps p.tables e below (T3.setTop (mkF m 59 #[.val (.int p1), .val (.int p2), .val (.int (p1 &&& (2147483647 : Int32))), .val (.int ((p2 &&& (2147483647 : Int32)) % (101 : Int32))), .val (.int (own_rank (p1 &&& (2147483647 : Int32)) ((p2 &&& (2147483647 : Int32)) % (101 : Int32)))), .val (.long ((((p2 &&& (2147483647 : Int32)) % (101 : Int32)).toInt64) * ((p1 &&& (2147483647 : Int32)).toInt64))), .second, .val (.long ((own_rank (p1 &&& (2147483647 : Int32)) ((p2 &&& (2147483647 : Int32)) % (101 : Int32))).toInt64)), .second] [(.int (1 : Int32))])) _
    refine XS.goto X3.here hx rfl (pc0 := 59) (pc' := 63) rfl (hb hby at_59) (by decide) (by decide) ?_
    show Steps p.tables e below (T3.setTop (mkF m 63 #[.val (.int p1), .val (.int p2), .val (.int (p1 &&& (2147483647 : Int32))), .val (.int ((p2 &&& (2147483647 : Int32)) % (101 : Int32))), .val (.int (own_rank (p1 &&& (2147483647 : Int32)) ((p2 &&& (2147483647 : Int32)) % (101 : Int32)))), .val (.long ((((p2 &&& (2147483647 : Int32)) % (101 : Int32)).toInt64) * ((p1 &&& (2147483647 : Int32)).toInt64))), .second, .val (.long ((own_rank (p1 &&& (2147483647 : Int32)) ((p2 &&& (2147483647 : Int32)) % (101 : Int32))).toInt64)), .second] [(.int (1 : Int32))])) _
    exact retN X3 hx (t := .boolean) Bd.returns (by simp) (hb hby at_63) hr
  · show Q0 Z p1 p2 h0 n0 _ T3.heap _
    exact ⟨rfl, N3⟩
theorem own_cases (p1 : Int32) (p2 : Int32) : (((lcmpW ((100 : Int64) * (((own_rank (p1 &&& (2147483647 : Int32)) ((p2 &&& (2147483647 : Int32)) % (101 : Int32))).toInt64) - (1 : Int64))) ((((p2 &&& (2147483647 : Int32)) % (101 : Int32)).toInt64) * ((p1 &&& (2147483647 : Int32)).toInt64))) < (0 : Int32)) ∧ (¬ ((0 : Int32) < (lcmpW ((((p2 &&& (2147483647 : Int32)) % (101 : Int32)).toInt64) * ((p1 &&& (2147483647 : Int32)).toInt64)) ((100 : Int64) * ((own_rank (p1 &&& (2147483647 : Int32)) ((p2 &&& (2147483647 : Int32)) % (101 : Int32))).toInt64)))))) := by
  have hn : (p1 &&& (2147483647 : Int32)).toInt = p1.toInt % 2147483648 := c_mask p1 2147483647 31 (by decide) (by decide)
  have hm : (p2 &&& (2147483647 : Int32)).toInt = p2.toInt % 2147483648 := c_mask p2 2147483647 31 (by decide) (by decide)
  have hq := (c_irem (p2 &&& (2147483647 : Int32)) 101 101 (by decide)).1 (by omega)
  generalize (p2 &&& (2147483647 : Int32)) % (101 : Int32) = q at *
  generalize (p1 &&& (2147483647 : Int32)) = n at *
  have b1 : 0 ≤ n.toInt := by omega
  have b2 : n.toInt ≤ 2147483647 := by omega
  have b3 : 0 ≤ q.toInt := by omega
  have b4 : q.toInt ≤ 100 := by omega
  have p0 : 0 ≤ n.toInt * q.toInt := Int.mul_nonneg b1 b3
  have p9 : n.toInt * q.toInt ≤ 2147483647 * 100 := Int.mul_le_mul b2 b4 b3 (by decide)
  have k100 : (100 : Int64).toInt = 100 := by decide
  have k99 : (99 : Int64).toInt = 99 := by decide
  have k1 : (1 : Int64).toInt = 1 := by decide
  have e1 := c_lmul n.toInt64 q.toInt64
  rw [c_i2l, c_i2l] at e1
  have r1 := rng64 (n.toInt64 * q.toInt64)
  have f1 : (n.toInt64 * q.toInt64).toInt = n.toInt * q.toInt := by omega
  have f2 : q.toInt64 * n.toInt64 = n.toInt64 * q.toInt64 := Int64.mul_comm _ _
  rw [f2]
  simp only [own_rank]
  generalize n.toInt64 * q.toInt64 = A at *
  generalize n.toInt * q.toInt = P at *
  have e2 := c_ladd A 99
  have r2 := rng64 (A + 99)
  have f3 : (A + 99).toInt = P + 99 := by omega
  have f4 := (c_ldiv (A + 99) 100 100 (by decide) (by decide)).1 (by omega)
  generalize (A + 99) / 100 = C at *
  have e3 := c_l2i C
  have r3 := rng32 C.toInt32
  have f5 : C.toInt32.toInt = C.toInt := by omega
  have f6 := c_i2l C.toInt32
  generalize C.toInt32.toInt64 = R at *
  have e4 := c_lsub R 1
  have r4 := rng64 (R - 1)
  have e5 := c_lmul 100 (R - 1)
  have r5 := rng64 (100 * (R - 1))
  have e6 := c_lmul 100 R
  have r6 := rng64 (100 * R)
  rw [k100] at e5 e6
  rw [lw_lt, lw_gt, Int64.lt_iff_toInt_lt, Int64.lt_iff_toInt_lt]
  omega
theorem rm0 (l : Launch) (Z : State) (a0 : Array Value) (hw : ∀ d ∈ tables_1, d.before a0 Z = true) (ws : List Jvm.Cond) (p1 : Int32) (p2 : Int32) (h0 : Heap) (n0 : Nat) (Z0 : n0 ≤ h0.size) :
    MetFree l x (head1 (Jvm.Cond.code x code maxLocals ret :: ws) room_1) (fun a U => a = #[(.int p1), (.int p2)] ∧ Z.Warmed39 U.vm ∧ U.heap = h0) (fun _ _ _ _ _ => True) (fun _ U o U' => ∃ v L, o = .returned v ∧ Q0 Z p1 p2 h0 n0 v U'.heap L ∧ FrameEnd U o U' L room_1.cells room_1.slots) := by
  rcases own_cases p1 p2 with ⟨hc43, hc55⟩
  · exact rm0_ff l Z a0 hw ws p1 p2 h0 n0 Z0 (by decide) hc43 hc55
set_option maxRecDepth 65536 in
set_option maxHeartbeats 40000000 in
theorem comes_1 {Post : Tables → Env → Array Value → State → Outcome → State → Prop} (hpost : ∀ tb e args s v u, (limb_1_1.after args s (.returned v) u = true ∧ limb_1_2.after args s (.returned v) u = true ∧ True) → FrameEnd s (.returned v) u (Jvm.fieldLocs frame_1_writes args s ++ Jvm.arrayLocs frame_1_arrays args s ++ Jvm.staticLocs frame_1_statics s) 0 0 → Post tb e args s (.returned v) u) :
    ArmFor flags0 classFile x code maxLocals ret World_1 tables_1 room_1 Calls_1 rest_1 Pre_1 Post := by
  intro l hfl _ _ p e ha hc hk s m args below hf hA hF happ hP
  obtain ⟨hcalls, hrest, hpre⟩ := hP
  obtain ⟨-, -, -, hnamed, -, -, -, hat⟩ := (Spec.applies_iff hf).mp happ
  obtain ⟨hg, hn⟩ := and_e (Cond.before_iff.mp (show (Jvm.Cond.and given_1 narrow_1).before args s = true from hpre))
  obtain ⟨g4, g5⟩ := and_e hg
  obtain ⟨g6, g7⟩ := and_e g5
  obtain ⟨w0, w1, rfl⟩ : ∃ w0 w1 : Value, args = #[w0, w1] := by
    have hs : args.size = 2 := by simpa [Cond.value, given_1] using g4
    obtain ⟨L⟩ := args
    match L, hs with
    | [w0, w1], _ => exact ⟨w0, w1, rfl⟩
  have hw := fun d (hd : d ∈ tables_1) => atoms_spec (ws := Jvm.Cond.code x code maxLocals ret :: tables_1) hat d (List.mem_cons_of_mem _ hd)
  have hfit : Fit s := fun {y c} hc i hi => by
    obtain ⟨ha, rfl⟩ := Array.getElem?_eq_some_iff.mp hc
    have q := List.all_eq_true.mp ((Array.all_eq_true_iff_forall_mem.mp hF) _ (Array.getElem_mem ha)) i (List.mem_range.mpr hi)
    simpa [Array.getElem?_eq_getElem hi] using q
  obtain ⟨i0, ei0⟩ := is_v g6
  obtain rfl : w0 = (.int i0) := Option.some.inj ei0
  obtain ⟨i1, ei1⟩ := is_v g7
  obtain rfl : w1 = (.int i1) := Option.some.inj ei1
  obtain ⟨n, o, h1, h2, h3, _, L, rfl, ⟨rfl, N⟩, hq⟩ := rm0 l s _ hw tables_1 i0 i1 s.heap s.heap.size (Nat.le_refl _) p e ha hc hk s m _ below hf ((Spec.applies_iff_loose hf).mp happ).1 ⟨rfl, State.Warmed39.refl s, rfl⟩ trivial
  refine ⟨n, _, h1, h2, h3, hpost _ _ _ _ _ _ ⟨Cond.after_iff.mpr rfl, Cond.after_iff.mpr (eq_i res_at (Term.int_eval (1)) rfl), trivial⟩ ⟨hq.1, hq.2.1, (hq.2.2.sift fun y hy => Or.inr (N y hy)).mono (by decide) (by decide)⟩⟩
theorem main_1_1 : Claimed_1_1 := comes_1 fun _ _ _ _ _ _ h hF => ⟨h.1, hF⟩
theorem main_1_2 : Claimed_1_2 := comes_1 fun _ _ _ _ _ _ h hF => ⟨h.2.1, hF⟩
end Jvm.Pilot.@@N@@
namespace Jvm.Pilot.@@N@@
open Jvm Jvm.ClassFile Sem Op Lib Jvm.Free Jvm.Stand Jvm.Pilot.@@N@@.Jvm.D
/-! MADE BY PROGRAM (witnessworld.py) out of the Statement's table words and the real class files: 9 classes; the members and pool entries that the words name. The judged class is class 1, her method 1. -/
namespace start1
open Jvm.ClassFile
def u (s : String) : CpInfo := .utf8 (stringToUtf16 s)
/-- a pool by its gaps: so many unusable entries, then the entry; so many at the end -/
def gap : Nat → List CpInfo → List CpInfo
  | 0, r => r
  | n + 1, r => .unusable :: gap n r
def poolList (es : List (Nat × CpInfo)) (last : Nat) : List CpInfo := es.foldr (fun e r => gap e.1 (e.2 :: r)) (gap last [])
def pool (es : List (Nat × CpInfo)) (last : Nat) : Array CpInfo := ⟨poolList es last⟩
def fileOf (pool : Array CpInfo) (this : Nat) (attrs : Array Attribute := #[]) (ms : Array MethodInfo := #[]) (fl : Nat := 33) (sup : Nat := 0) (ifs : Array Nat := #[]) (fds : Array FieldInfo := #[]) : ClassFile where
  minorVersion := 0
  majorVersion := 65
  constantPool := pool
  accessFlags := fl
  thisClass := this
  superClass := sup
  interfaces := ifs
  fields := fds
  methods := ms
  attributes := attrs
def plain (name : String) (sup : Option ClassId) : Class where
  name := name
  kind := .ordinary
  loader := none
  accessFlags := 33
  super := sup
  interfaces := #[]
  cf := none
  fields := #[]
  methods := #[]
  instanceTypes := #[]
  staticTypes := #[]
  resolved := #[]
  callSites := []
  init := .initialized
  statics := none
  mirror := none

def pool0 : Array CpInfo := pool [(5, u "<init>"), (0, u "()V"), (1, .class_ 10), (1, u "java/lang/Object")] 113

def k0m0 : Method := { name := "<init>", desc := "()V", sig := { parameters := [], returnType := none }, accessFlags := 1, code := none }
/-- java/lang/Object -/
def k0 : Class := { plain "java/lang/Object" none with
  accessFlags := 33
  interfaces := #[]
  cf := some (fileOf pool0 8 #[] #[{ accessFlags := 1, nameIndex := 5, descriptorIndex := 6, attributes := #[] }] 33 0 #[] #[])
  fields := #[]
  methods := #[k0m0]
  instanceTypes := #[]
  staticTypes := #[]
  resolved := Array.replicate 124 none
  statics := none }

def pool1 : Array CpInfo := pool [(2, .class_ 4), (1, u "java/lang/Object"), (0, u "<init>"), (0, u "()V"), (0, .integer 2147483647), (0, .methodref 9 10), (0, .class_ 11), (0, .nameAndType 12 13), (0, u "com/example/cell5/bench/Times"), (0, u "rank"), (0, u "(II)I"), (0, .long 100), (1, .class_ 17), (0, u "com/example/cell5/bench/TimesRankPinLaw"), (2, u "law"), (0, u "(II)Z")] 3

def k1m0 : Method := { name := "<init>", desc := "()V", sig := { parameters := [], returnType := none }, accessFlags := 1, code := none }
def k1c1 : Code := { maxStack := 6, maxLocals := 9, code := code, exceptionTable := #[], attributes := #[] }
def k1m1 : Method := { name := "law", desc := "(II)Z", sig := { parameters := [.int, .int], returnType := some .boolean }, accessFlags := 9, code := some k1c1 }
/-- com/example/cell5/bench/TimesRankPinLaw -/
def k1 : Class := { plain "com/example/cell5/bench/TimesRankPinLaw" (some 0) with
  accessFlags := 49
  interfaces := #[]
  cf := some (fileOf pool1 16 #[] #[{ accessFlags := 1, nameIndex := 5, descriptorIndex := 6, attributes := #[] }, { accessFlags := 9, nameIndex := 20, descriptorIndex := 21, attributes := #[] }] 49 2 #[] #[])
  fields := #[]
  methods := #[k1m0, k1m1]
  instanceTypes := #[]
  staticTypes := #[]
  resolved := Array.replicate 25 none
  statics := none }

def pool2 : Array CpInfo := pool [(2, .class_ 4), (1, u "java/lang/Object"), (12, u "[J"), (3, .class_ 23), (1, u "com/example/cell5/bench/Times"), (0, u "sorted"), (13, .class_ 40), (1, u "com/example/cell5/bench/Times$RoundTrip"), (31, u "rank"), (0, u "(II)I"), (2, .long 99), (1, .long 100)] 69

def k2c0 : Code := { maxStack := 4, maxLocals := 2, code := prog_4_method_8_code, exceptionTable := #[], attributes := #[] }
def k2m0 : Method := { name := "rank", desc := "(II)I", sig := { parameters := [.int, .int], returnType := some .int }, accessFlags := 8, code := some k2c0 }
/-- com/example/cell5/bench/Times -/
def k2 : Class := { plain "com/example/cell5/bench/Times" (some 0) with
  accessFlags := 48
  interfaces := #[]
  cf := some (fileOf pool2 21 #[.nestMembers #[38]] #[{ accessFlags := 8, nameIndex := 72, descriptorIndex := 73, attributes := #[] }] 48 2 #[] #[{ accessFlags := 18, nameIndex := 24, descriptorIndex := 17, attributes := #[] }])
  fields := #[{ name := "sorted", type := (.array .long), accessFlags := 18, slot := 0, constantValue := 0 }]
  methods := #[k2m0]
  instanceTypes := #[(.array .long)]
  staticTypes := #[]
  resolved := Array.replicate 148 none
  statics := none }

def pool3 : Array CpInfo := pool [(1, u "java/lang/Cloneable"), (0, .class_ 1), (0, u "java/lang/Object"), (0, .class_ 3)] 3

/-- java/lang/Cloneable -/
def k3 : Class := { plain "java/lang/Cloneable" (some 0) with
  accessFlags := 1537
  interfaces := #[]
  cf := some (fileOf pool3 2 #[] #[] 1537 4 #[] #[])
  fields := #[]
  methods := #[]
  instanceTypes := #[]
  staticTypes := #[]
  resolved := Array.replicate 8 none
  statics := none }

def pool4 : Array CpInfo := pool [(1, u "java/io/Serializable"), (0, .class_ 1), (0, u "java/lang/Object"), (0, .class_ 3)] 3

/-- java/io/Serializable -/
def k4 : Class := { plain "java/io/Serializable" (some 0) with
  accessFlags := 1537
  interfaces := #[]
  cf := some (fileOf pool4 2 #[] #[] 1537 4 #[] #[])
  fields := #[]
  methods := #[]
  instanceTypes := #[]
  staticTypes := #[]
  resolved := Array.replicate 8 none
  statics := none }

/-- the primitive byte -/
def k5 : Class := { plain "byte" none with kind := .primitive 'B', accessFlags := 0x411 }
/-- [B -/
def k6 : Class := { plain "[B" (some 0) with kind := .array 5 .byte, interfaces := #[3, 4], accessFlags := 1041 }

/-- the primitive int -/
def k7 : Class := { plain "int" none with kind := .primitive 'I', accessFlags := 0x411 }
/-- [I -/
def k8 : Class := { plain "[I" (some 0) with kind := .array 7 .int, interfaces := #[3, 4], accessFlags := 1041 }

def heap : Heap := #[]
def classes : Array Class := #[k0, k1, k2, k3, k4, k5, k6, k7, k8]
def interned : List (Array UInt16 × Addr) := []
def slotsUsed : Nat := 0
def theMethod : MethodId := ⟨1, 1⟩
def args0 : Array Value := #[.int 3, .int 1]
def aboutOver (below : List Frame) : State where
  vm := { classes := classes, interned := interned.toArray }
  heap := heap
  slotsUsed := slotsUsed
  threads := #[{ frames := .invoking theMethod args0 :: below }]
def below0 : List Frame := [.native { method := ⟨0, 0⟩, args := #[] }]
def about1 : State := aboutOver below0
def p0 : Program := .bare "" "" ""
def e0 : Env := launch0.env 0 0 0
theorem w_frames : about1.frames = Frame.invoking theMethod args0 :: below0 := rfl
set_option maxRecDepth 65536 in
theorem w_args : argsFit about1.vm theMethod args0 = true := by decide +kernel
set_option maxRecDepth 65536 in
theorem w_heap : heapFits about1 = true := by decide +kernel
set_option maxRecDepth 65536 in
theorem w_runnable : about1.curStatus? = some .runnable := by decide +kernel
set_option maxRecDepth 65536 in
theorem w_alone : about1.alone = true := by decide +kernel
set_option maxRecDepth 65536 in
theorem w_named : about1.methodNamed? x = some theMethod := by decide +kernel
set_option maxRecDepth 65536 in
theorem w_hears : about1.hears theMethod below0 = true := by decide +kernel
set_option maxRecDepth 65536 in
theorem w_ripe : about1.ripe theMethod args0 below0 = true := by decide +kernel
theorem w_running : about1.status = .running := rfl
set_option maxRecDepth 65536 in
theorem w_room : about1.hasRoom e0.platform room_1 = true :=
  launch0.hasRoom_least _ room_1 (by decide +kernel) (by decide +kernel) (by decide +kernel) (by decide +kernel) (by decide +kernel) (by decide +kernel)
theorem allAtoms_all (ts : List Jvm.Cond) (a : Array Jvm.Value) (st : Jvm.State) : (allAtoms ts).before a st = ts.all (fun c => c.before a st) := by
  induction ts with
  | nil => rfl
  | cons c t ih =>
    show (Jvm.Cond.and c (allAtoms t)).before a st = _
    rw [Jvm.Cond.before_and, ih, List.all_cons]
def words1 : List Jvm.Cond := Jvm.Cond.code x code maxLocals ret :: tables_1
/-- a 'code' word, met by the world's own term for the bytes: nothing is compared byte by byte -/
theorem code_word {y : MethodName} {bytes : ByteArray} {mx : Nat} {rt : Option FieldType} {a : Array Value} {s : State} {m : MethodId} {meth : Method} {c : Code} (h1 : s.methodNamed? y = some m) (h2 : s.vm.method? m = some meth) (h3 : meth.code = some c) (h4 : c.code = bytes)
    (h5 : (c.maxLocals == mx && c.exceptionTable.isEmpty && decide (c.maxStack ≤ mostOperands) && decide (meth.sig.returnType = rt) && !meth.locks && decide (parseMethodDescriptor y.desc = some meth.sig)) = true) : (Jvm.Cond.code y bytes mx rt).before a s = true := by
  simp only [Bool.and_eq_true, beq_iff_eq, Bool.not_eq_true', decide_eq_true_eq] at h5
  obtain ⟨⟨⟨⟨⟨g1, g2⟩, g3⟩, g4⟩, g5⟩, g6⟩ := h5
  simp [Cond.before, Cond.holds, Cond.value, h1, h2, h3, h4, g1, g2, g3, g4, g5, g6]
def isCode : Jvm.Cond → Bool
  | .code _ _ _ _ => true
  | _ => false
theorem all_split {L : List Jvm.Cond} {P : Jvm.Cond → Bool} (h1 : L.all (fun c => isCode c || P c) = true) (h2 : ∀ c ∈ L.filter isCode, P c = true) : L.all P = true := by
  refine List.all_eq_true.mpr fun c hc => ?_
  have h := List.all_eq_true.mp h1 c hc
  rcases Bool.eq_false_or_eq_true (isCode c) with hi | hi
  · exact h2 c (List.mem_filter.mpr ⟨hc, hi⟩)
  · simpa [hi] using h
set_option maxRecDepth 65536 in
theorem w_c0 : (Jvm.Cond.code x code maxLocals ret).before args0 about1 = true := code_word (m := ⟨1, 1⟩) (meth := k1m1) (c := k1c1) (by decide +kernel) rfl rfl rfl (by decide +kernel)
set_option maxRecDepth 65536 in
theorem w_c1 : (Jvm.Cond.code ({ cls := "com/example/cell5/bench/Times", name := "rank", desc := "(II)I" } : Jvm.MethodName) prog_4_method_8_code (2 : Nat) (Option.some Jvm.ClassFile.FieldType.int)).before args0 about1 = true := code_word (m := ⟨2, 0⟩) (meth := k2m0) (c := k2c0) (by decide +kernel) rfl rfl rfl (by decide +kernel)
def codes1 : List Jvm.Cond := [Jvm.Cond.code x code maxLocals ret, Jvm.Cond.code ({ cls := "com/example/cell5/bench/Times", name := "rank", desc := "(II)I" } : Jvm.MethodName) prog_4_method_8_code (2 : Nat) (Option.some Jvm.ClassFile.FieldType.int)]
set_option maxRecDepth 65536 in
theorem codes_eq : words1.filter isCode = codes1 := rfl
theorem w_codes : ∀ c ∈ words1.filter isCode, c.before args0 about1 = true := by
  rw [codes_eq]
  intro c hc
  simp only [codes1, List.mem_cons, List.not_mem_nil, or_false] at hc
  rcases hc with rfl | rfl
  · exact w_c0
  · exact w_c1
set_option maxRecDepth 65536 in
theorem w_t1 : words1.all (fun c => isCode c || c.before args0 about1) = true := by decide +kernel
theorem w_tables : (allAtoms (Jvm.Cond.code x code maxLocals ret :: tables_1)).before args0 about1 = true := by
  rw [allAtoms_all]
  show words1.all (fun c => c.before args0 about1) = true
  refine all_split ?_ w_codes
  rw [w_t1]
set_option maxRecDepth 65536 in
theorem w_case : (Jvm.Cond.and given_1 narrow_1).before args0 about1 = true := by decide +kernel
theorem w_applies : (headSpec (Jvm.Cond.code x code maxLocals ret :: tables_1) room_1).applies x e0.platform about1 = true :=
  (Spec.applies_iff w_frames).mpr ⟨w_running, w_runnable, w_alone, w_named, w_hears, w_ripe, w_room, w_tables⟩
theorem atStart : AtStart classFile x code maxLocals ret World_1 tables_1 room_1 Calls_1 rest_1 Pre_1 launch0 p0 e0 about1 theMethod args0 below0 :=
  ⟨lists_1, trivial, launch0.admits_env _ _ _, launch0.least_env, fairChoices_fair.cas, fairChoices_fair.clock, w_frames, w_args, w_heap, w_applies, trivial, trivial, w_case⟩
end start1
theorem witness_1 : WitnessClaimed_1 := ⟨start1.p0, start1.e0, start1.about1, start1.theMethod, start1.args0, start1.below0, start1.atStart⟩
end Jvm.Pilot.@@N@@
