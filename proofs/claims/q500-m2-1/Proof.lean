import JvmDerived
import JvmDerived.Pilot.@@N@@Statement
import JvmDerived.Pilot.@@N@@Code
set_option linter.unusedVariables false
set_option linter.unusedSimpArgs false
namespace Jvm.RoadKit
open Sem ClassFile Op Lib Jvm.Stand Jvm.Free Jvm.LawKit
section New
variable {p : Program} {l : Launch} {e : Env} {R : Room} {s : State} {m : MethodId} {args : Array Value} {below : List Frame} {meth : Method} {c : Code} {T : State} {locs : List Loc} {cells slots : Nat}
theorem retI (X : Stand p l e R s m args below meth c T locs cells slots) (hx : p.tables.exec = Jvm.exec) {pc : Nat} {Ls : Array Slot} {z : Int32} {rest : List Value} (hret : meth.sig.returnType = some .int) (hd : decode c.code pc = .ok (.ireturn, 1)) {fs : List Frame}
    (hl : ∀ (f : JFrame) (acts : List Action), f.method = m → f.locked = none → f.entered = [] → (doReturn e (T.setTop f) acts (some (.int z))).1 = T.setFrames fs) : Steps p.tables e below (T.setTop (mkF m pc Ls (.int z :: rest))) (T.setFrames fs) := by
  have hm' : T.vm.method? m = some meth := X.method'
  have hn : narrow .int (.int z) = .int z := rfl
  show Steps p.tables e below (T.setTop { method := m, pc := pc, locals := Ls, stack := _ :: rest, locked := none }) _
  jvm_step X.here [X.here.top, hx, hd, hm', hret, hn]
  first | (intro acts; rw [hl _ acts rfl rfl rfl]) | rw [hl _ _ rfl rfl rfl]
  exact Steps.refl _
theorem retJ (X : Stand p l e R s m args below meth c T locs cells slots) (hx : p.tables.exec = Jvm.exec) {pc : Nat} {Ls : Array Slot} {z : Int64} {rest : List Value} (hret : meth.sig.returnType = some .long) (hd : decode c.code pc = .ok (.lreturn, 1)) {fs : List Frame}
    (hl : ∀ (f : JFrame) (acts : List Action), f.method = m → f.locked = none → f.entered = [] → (doReturn e (T.setTop f) acts (some (.long z))).1 = T.setFrames fs) : Steps p.tables e below (T.setTop (mkF m pc Ls (.long z :: rest))) (T.setFrames fs) := by
  have hm' : T.vm.method? m = some meth := X.method'
  have hn : narrow .long (.long z) = .long z := rfl
  show Steps p.tables e below (T.setTop { method := m, pc := pc, locals := Ls, stack := _ :: rest, locked := none }) _
  jvm_step X.here [X.here.top, hx, hd, hm', hret, hn]
  first | (intro acts; rw [hl _ acts rfl rfl rfl]) | rw [hl _ _ rfl rfl rfl]
  exact Steps.refl _
end New
end Jvm.RoadKit
namespace Jvm.Pilot.@@N@@
open Jvm Jvm.ClassFile Sem Op Lib Jvm.Free Jvm.Stand Jvm.LawKit Jvm.RoadKit Bundle Jvm.Pilot.@@N@@.Jvm.D
def QV (w : Option Value) (h0 : Heap) (n0 : Nat) (v : Option Value) (h : Heap) (L : List Loc) : Prop := v = w ∧ Fr n0 L ∧ h = h0
def own_iseq (z w : Int32) : Int32 := if z < (3 : Int32) then (0 : Int32) else if w = (-2 : Int32) then (1 : Int32) else (0 : Int32)
def own_isne (z w : Int32) : Int32 := if z < (3 : Int32) then (0 : Int32) else if w = (-3 : Int32) then (1 : Int32) else (0 : Int32)
def own_link (z w : Int32) : Int32 := if z = (3 : Int32) then (if w < (0 : Int32) then (0 : Int32) else (1 : Int32)) else (0 : Int32)
def own_memb (z w : Int32) : Int32 := if z = (2 : Int32) then (1 : Int32) else (0 : Int32)
theorem own_one3 {z : Int32} (h : ¬ z < (3 : Int32)) : (1 : Int32) < z := by
  have a3 : (3 : Int32).toInt = 3 := by decide
  have a1 : (1 : Int32).toInt = 1 := by decide
  rw [Int32.lt_iff_toInt_lt] at h ⊢
  omega
theorem own_hat {cl : Cell} {z w : Int32} {vs : List Value} {d : Value} (S : cl.slots.size = z.toNatClampNeg) (H : Has cl vs d) (h1 : (1 : Int32) < z) (hv : vs.getD 1 d = .int w) : ¬ ((1 : Int32) < 0 ∨ cl.slots.size ≤ ((1 : Int32)).toNatClampNeg) ∧ cl.slots[((1 : Int32)).toNatClampNeg]? = some (.int w) := by
  have hin : ¬ ((1 : Int32) < 0 ∨ cl.slots.size ≤ ((1 : Int32)).toNatClampNeg) := inb_of S ⟨by decide, h1⟩
  refine ⟨hin, ?_⟩
  rw [← hv]
  exact H 1 (Nat.lt_of_not_le fun q => hin (Or.inr q))
def QI (Z : State) (z p : Int32) (h0 : Heap) (n0 : Nat) (v : Option Value) (h : Heap) (L : List Loc) : Prop := ∃ (b : Addr) (k : ClassId) (vs : List Value), v = some (.ref b) ∧ Fr n0 L ∧ Keep h0 h [] ∧ n0 ≤ b ∧ h0.size ≤ b ∧ Arv Z h b k .int (z + 1) vs (.int (0 : Int32)) ∧ vs.getD 1 (.int (0 : Int32)) = .int p
theorem d1_0 : decode prog_45_method_5_code 0 = .ok (.aload_n 0, 1) := by decide +kernel
theorem d1_1 : decode prog_45_method_5_code 1 = .ok (.arraylength, 1) := by decide +kernel
theorem d1_2 : decode prog_45_method_5_code 2 = .ok (.iconst 3, 1) := by decide +kernel
theorem d1_3 : decode prog_45_method_5_code 3 = .ok (.if_icmp .lt 15, 3) := by decide +kernel
theorem d1_18 : decode prog_45_method_5_code 18 = .ok (.iconst 0, 1) := by decide +kernel
theorem d1_19 : decode prog_45_method_5_code 19 = .ok (.ireturn, 1) := by decide +kernel
theorem pn_1 : plainName "com/example/restless_reasoner/restlessreasoner/engine/tableau/Premises" = true := by first | (simp [plainName, overriddenIn]; done) | decide +kernel
theorem ef_1 (m : MethodId) (x0 : Addr) : entryFrame m #[(.ref x0)] 1 = mkF m 0 #[.val (.ref x0)] [] := by first | (simp [entryFrame, mkF, argsToLocals, Value.category]; done) | rfl
theorem d1_6 : decode prog_45_method_5_code 6 = .ok (.aload_n 0, 1) := by decide +kernel
theorem d1_7 : decode prog_45_method_5_code 7 = .ok (.iconst 1, 1) := by decide +kernel
theorem d1_8 : decode prog_45_method_5_code 8 = .ok (.iaload, 1) := by decide +kernel
theorem d1_9 : decode prog_45_method_5_code 9 = .ok (.bipush (-3), 2) := by decide +kernel
theorem d1_11 : decode prog_45_method_5_code 11 = .ok (.if_icmp .ne 7, 3) := by decide +kernel
theorem d1_14 : decode prog_45_method_5_code 14 = .ok (.iconst 1, 1) := by decide +kernel
theorem d1_15 : decode prog_45_method_5_code 15 = .ok (.goto 4, 3) := by decide +kernel
set_option maxRecDepth 65536 in
set_option maxHeartbeats 40000000 in
theorem rm1_t (l : Launch) (Z : State) (a0 : Array Value) (hw : ∀ d ∈ tables_1, d.before a0 Z = true) (ws : List Jvm.Cond) (a1 : Addr) (cl_a1 : Cell) (z_a1 : Int32) (h0 : Heap) (n0 : Nat) (Z0 : n0 ≤ h0.size) (Ar_a1 : Arr Z h0 a1 cl_a1 .int) (S_a1 : cl_a1.slots.size = z_a1.toNatClampNeg) (N_a1 : ¬ z_a1 < 0) (hc3 : z_a1 < (3 : Int32)) :
    MetFree l (⟨"com/example/restless_reasoner/restlessreasoner/engine/tableau/Premises", "isInequality", "([I)Z"⟩ : MethodName) (head1 (Jvm.Cond.code (⟨"com/example/restless_reasoner/restlessreasoner/engine/tableau/Premises", "isInequality", "([I)Z"⟩ : MethodName) prog_45_method_5_code 1 (some .boolean) :: ws) ({ frames := 0, cells := 0, slots := 0, locals := 0 } : Room)) (fun a U => a = #[(.ref a1)] ∧ Z.Warmed39 U.vm ∧ U.heap = h0) (fun _ _ _ _ _ => True) (fun _ U o U' => ∃ v L, o = .returned v ∧ QV (some (.int (0 : Int32))) h0 n0 v U'.heap L ∧ FrameEnd U o U' L ({ frames := 0, cells := 0, slots := 0, locals := 0 } : Room).cells ({ frames := 0, cells := 0, slots := 0, locals := 0 } : Room).slots) := by
  refine MetFree.of_bodySF (plainFor_of_name pn_1) hisR ?_
  intro p e s m args below meth c s₁ Bd hml0 hP hK
  obtain ⟨rfl, hZ, hh⟩ := hP
  have hx := Bd.exec
  have hby := Bd.bytes
  have hml : c.maxLocals = 1 := hml0
  have hown : s.vm.findClass "com/example/restless_reasoner/restlessreasoner/engine/tableau/Premises" = some m.cls := findClass_of_methodNamed Bd.named
  have hnm := (name_of_methodNamed Bd.named Bd.method).1
  have X0 : Stand p l e ({ frames := 0, cells := 0, slots := 0, locals := 0 } : Room) s m #[(.ref a1)] below meth c s₁ [] 0 0 := Stand.of_body Bd
  have e0 : s₁.heap = h0 := by rw [← hh, Bd.state]; rfl
  have N0 := Fr.nil n0
  have pre0 : ∀ t, Steps p.tables e below (s₁.setTop (mkF m 0 #[.val (.ref a1)] [])) t → Steps p.tables e below (s₁.setTop (entryFrame m #[(.ref a1)] 1)) t := fun t k => castTop (ef_1 m a1) k

  obtain ⟨fs, hr, hrun, hended, hW, hsame⟩ := X0.leave (v := some (.int (0 : Int32))) (fun h => by rw [Bd.returns] at h; cases h)
  refine ⟨_, _, pre0 _ ?_, hrun, hended, _, _, rfl, ?_, ⟨_, rfl⟩, hW, hsame.mono (by decide) (by decide)⟩
  · show Steps p.tables e below (s₁.setTop (mkF m 0 #[.val (.ref a1)] [])) _
    refine XS.aloadN X0.here hx rfl (hb hby d1_0) rfl rfl ?_
    show Steps p.tables e below (s₁.setTop (mkF m 1 #[.val (.ref a1)] [(.ref a1)])) _
    refine X0.arraylength hx (by rw [e0]; exact Ar_a1.1) (State.isArrayOf_alike hZ.alike Ar_a1.2.1) (g := (mkF m 1 #[.val (.ref a1)] [(.ref a1)])) rfl rfl (hb hby d1_1) _ ?_
    rw [len_of S_a1 N_a1]
    show Steps p.tables e below (s₁.setTop (mkF m 2 #[.val (.ref a1)] [(.int z_a1)])) _
    refine XS.iconst X0.here hx rfl (hb hby d1_2) ?_
    show Steps p.tables e below (s₁.setTop (mkF m 3 #[.val (.ref a1)] [(.int (3 : Int32)), (.int z_a1)])) _
    refine XS.icmpYes X0.here hx rfl (pc0 := 3) (pc' := 18) rfl (hb hby d1_3) rfl (tlt hc3).1 (by decide) (by decide) ?_
    show Steps p.tables e below (s₁.setTop (mkF m 18 #[.val (.ref a1)] [])) _
    refine XS.iconst X0.here hx rfl (hb hby d1_18) ?_
    show Steps p.tables e below (s₁.setTop (mkF m 19 #[.val (.ref a1)] [(.int (0 : Int32))])) _
    exact retN X0 hx (t := .boolean) Bd.returns (by simp) (hb hby d1_19) hr
  · show QV (some (.int (0 : Int32))) h0 n0 _ s₁.heap _
    rw [e0]
    exact ⟨rfl, N0, rfl⟩
set_option maxRecDepth 65536 in
set_option maxHeartbeats 40000000 in
theorem rm1_ft (l : Launch) (Z : State) (a0 : Array Value) (hw : ∀ d ∈ tables_1, d.before a0 Z = true) (ws : List Jvm.Cond) (a1 : Addr) (cl_a1 : Cell) (z_a1 : Int32) (w2 : Int32) (h0 : Heap) (n0 : Nat) (Z0 : n0 ≤ h0.size) (Ar_a1 : Arr Z h0 a1 cl_a1 .int) (S_a1 : cl_a1.slots.size = z_a1.toNatClampNeg) (N_a1 : ¬ z_a1 < 0) (hin8 : ¬ ((1 : Int32) < 0 ∨ cl_a1.slots.size ≤ ((1 : Int32)).toNatClampNeg)) (hat8 : cl_a1.slots[((1 : Int32)).toNatClampNeg]? = some (.int w2)) (hc3 : ¬ (z_a1 < (3 : Int32))) (hc11 : ¬ (w2 = (-3 : Int32))) :
    MetFree l (⟨"com/example/restless_reasoner/restlessreasoner/engine/tableau/Premises", "isInequality", "([I)Z"⟩ : MethodName) (head1 (Jvm.Cond.code (⟨"com/example/restless_reasoner/restlessreasoner/engine/tableau/Premises", "isInequality", "([I)Z"⟩ : MethodName) prog_45_method_5_code 1 (some .boolean) :: ws) ({ frames := 0, cells := 0, slots := 0, locals := 0 } : Room)) (fun a U => a = #[(.ref a1)] ∧ Z.Warmed39 U.vm ∧ U.heap = h0) (fun _ _ _ _ _ => True) (fun _ U o U' => ∃ v L, o = .returned v ∧ QV (some (.int (0 : Int32))) h0 n0 v U'.heap L ∧ FrameEnd U o U' L ({ frames := 0, cells := 0, slots := 0, locals := 0 } : Room).cells ({ frames := 0, cells := 0, slots := 0, locals := 0 } : Room).slots) := by
  refine MetFree.of_bodySF (plainFor_of_name pn_1) hisR ?_
  intro p e s m args below meth c s₁ Bd hml0 hP hK
  obtain ⟨rfl, hZ, hh⟩ := hP
  have hx := Bd.exec
  have hby := Bd.bytes
  have hml : c.maxLocals = 1 := hml0
  have hown : s.vm.findClass "com/example/restless_reasoner/restlessreasoner/engine/tableau/Premises" = some m.cls := findClass_of_methodNamed Bd.named
  have hnm := (name_of_methodNamed Bd.named Bd.method).1
  have X0 : Stand p l e ({ frames := 0, cells := 0, slots := 0, locals := 0 } : Room) s m #[(.ref a1)] below meth c s₁ [] 0 0 := Stand.of_body Bd
  have e0 : s₁.heap = h0 := by rw [← hh, Bd.state]; rfl
  have N0 := Fr.nil n0
  have pre0 : ∀ t, Steps p.tables e below (s₁.setTop (mkF m 0 #[.val (.ref a1)] [])) t → Steps p.tables e below (s₁.setTop (entryFrame m #[(.ref a1)] 1)) t := fun t k => castTop (ef_1 m a1) k

  obtain ⟨fs, hr, hrun, hended, hW, hsame⟩ := X0.leave (v := some (.int (0 : Int32))) (fun h => by rw [Bd.returns] at h; cases h)
  refine ⟨_, _, pre0 _ ?_, hrun, hended, _, _, rfl, ?_, ⟨_, rfl⟩, hW, hsame.mono (by decide) (by decide)⟩
  · show Steps p.tables e below (s₁.setTop (mkF m 0 #[.val (.ref a1)] [])) _
    refine XS.aloadN X0.here hx rfl (hb hby d1_0) rfl rfl ?_
    show Steps p.tables e below (s₁.setTop (mkF m 1 #[.val (.ref a1)] [(.ref a1)])) _
    refine X0.arraylength hx (by rw [e0]; exact Ar_a1.1) (State.isArrayOf_alike hZ.alike Ar_a1.2.1) (g := (mkF m 1 #[.val (.ref a1)] [(.ref a1)])) rfl rfl (hb hby d1_1) _ ?_
    rw [len_of S_a1 N_a1]
    show Steps p.tables e below (s₁.setTop (mkF m 2 #[.val (.ref a1)] [(.int z_a1)])) _
    refine XS.iconst X0.here hx rfl (hb hby d1_2) ?_
    show Steps p.tables e below (s₁.setTop (mkF m 3 #[.val (.ref a1)] [(.int (3 : Int32)), (.int z_a1)])) _
    refine XS.icmpNo X0.here hx rfl (hb hby d1_3) rfl (flt hc3).1 ?_
    show Steps p.tables e below (s₁.setTop (mkF m 6 #[.val (.ref a1)] [])) _
    refine XS.aloadN X0.here hx rfl (hb hby d1_6) rfl rfl ?_
    show Steps p.tables e below (s₁.setTop (mkF m 7 #[.val (.ref a1)] [(.ref a1)])) _
    refine XS.iconst X0.here hx rfl (hb hby d1_7) ?_
    show Steps p.tables e below (s₁.setTop (mkF m 8 #[.val (.ref a1)] [(.int (1 : Int32)), (.ref a1)])) _
    refine X0.iaload hx (j := (1 : Int32)) (v := (.int w2)) (by rw [e0]; exact Ar_a1.1) (State.isArrayOf_alike hZ.alike Ar_a1.2.1) Ar_a1.2.2 hin8 hat8 (g := (mkF m 8 #[.val (.ref a1)] [(.int (1 : Int32)), (.ref a1)])) rfl rfl (hb hby d1_8) _ ?_
    show Steps p.tables e below (s₁.setTop (mkF m 9 #[.val (.ref a1)] [(.int w2)])) _
    refine XS.bipush X0.here hx rfl (hb hby d1_9) ?_
    show Steps p.tables e below (s₁.setTop (mkF m 11 #[.val (.ref a1)] [(.int (-3 : Int32)), (.int w2)])) _
    refine XS.icmpYes X0.here hx rfl (pc0 := 11) (pc' := 18) rfl (hb hby d1_11) rfl (feq hc11).2 (by decide) (by decide) ?_
    show Steps p.tables e below (s₁.setTop (mkF m 18 #[.val (.ref a1)] [])) _
    refine XS.iconst X0.here hx rfl (hb hby d1_18) ?_
    show Steps p.tables e below (s₁.setTop (mkF m 19 #[.val (.ref a1)] [(.int (0 : Int32))])) _
    exact retN X0 hx (t := .boolean) Bd.returns (by simp) (hb hby d1_19) hr
  · show QV (some (.int (0 : Int32))) h0 n0 _ s₁.heap _
    rw [e0]
    exact ⟨rfl, N0, rfl⟩
set_option maxRecDepth 65536 in
set_option maxHeartbeats 40000000 in
theorem rm1_ff (l : Launch) (Z : State) (a0 : Array Value) (hw : ∀ d ∈ tables_1, d.before a0 Z = true) (ws : List Jvm.Cond) (a1 : Addr) (cl_a1 : Cell) (z_a1 : Int32) (w2 : Int32) (h0 : Heap) (n0 : Nat) (Z0 : n0 ≤ h0.size) (Ar_a1 : Arr Z h0 a1 cl_a1 .int) (S_a1 : cl_a1.slots.size = z_a1.toNatClampNeg) (N_a1 : ¬ z_a1 < 0) (hin8 : ¬ ((1 : Int32) < 0 ∨ cl_a1.slots.size ≤ ((1 : Int32)).toNatClampNeg)) (hat8 : cl_a1.slots[((1 : Int32)).toNatClampNeg]? = some (.int w2)) (hc3 : ¬ (z_a1 < (3 : Int32))) (hc11 : w2 = (-3 : Int32)) :
    MetFree l (⟨"com/example/restless_reasoner/restlessreasoner/engine/tableau/Premises", "isInequality", "([I)Z"⟩ : MethodName) (head1 (Jvm.Cond.code (⟨"com/example/restless_reasoner/restlessreasoner/engine/tableau/Premises", "isInequality", "([I)Z"⟩ : MethodName) prog_45_method_5_code 1 (some .boolean) :: ws) ({ frames := 0, cells := 0, slots := 0, locals := 0 } : Room)) (fun a U => a = #[(.ref a1)] ∧ Z.Warmed39 U.vm ∧ U.heap = h0) (fun _ _ _ _ _ => True) (fun _ U o U' => ∃ v L, o = .returned v ∧ QV (some (.int (1 : Int32))) h0 n0 v U'.heap L ∧ FrameEnd U o U' L ({ frames := 0, cells := 0, slots := 0, locals := 0 } : Room).cells ({ frames := 0, cells := 0, slots := 0, locals := 0 } : Room).slots) := by
  refine MetFree.of_bodySF (plainFor_of_name pn_1) hisR ?_
  intro p e s m args below meth c s₁ Bd hml0 hP hK
  obtain ⟨rfl, hZ, hh⟩ := hP
  have hx := Bd.exec
  have hby := Bd.bytes
  have hml : c.maxLocals = 1 := hml0
  have hown : s.vm.findClass "com/example/restless_reasoner/restlessreasoner/engine/tableau/Premises" = some m.cls := findClass_of_methodNamed Bd.named
  have hnm := (name_of_methodNamed Bd.named Bd.method).1
  have X0 : Stand p l e ({ frames := 0, cells := 0, slots := 0, locals := 0 } : Room) s m #[(.ref a1)] below meth c s₁ [] 0 0 := Stand.of_body Bd
  have e0 : s₁.heap = h0 := by rw [← hh, Bd.state]; rfl
  have N0 := Fr.nil n0
  have pre0 : ∀ t, Steps p.tables e below (s₁.setTop (mkF m 0 #[.val (.ref a1)] [])) t → Steps p.tables e below (s₁.setTop (entryFrame m #[(.ref a1)] 1)) t := fun t k => castTop (ef_1 m a1) k

  obtain ⟨fs, hr, hrun, hended, hW, hsame⟩ := X0.leave (v := some (.int (1 : Int32))) (fun h => by rw [Bd.returns] at h; cases h)
  refine ⟨_, _, pre0 _ ?_, hrun, hended, _, _, rfl, ?_, ⟨_, rfl⟩, hW, hsame.mono (by decide) (by decide)⟩
  · show Steps p.tables e below (s₁.setTop (mkF m 0 #[.val (.ref a1)] [])) _
    refine XS.aloadN X0.here hx rfl (hb hby d1_0) rfl rfl ?_
    show Steps p.tables e below (s₁.setTop (mkF m 1 #[.val (.ref a1)] [(.ref a1)])) _
    refine X0.arraylength hx (by rw [e0]; exact Ar_a1.1) (State.isArrayOf_alike hZ.alike Ar_a1.2.1) (g := (mkF m 1 #[.val (.ref a1)] [(.ref a1)])) rfl rfl (hb hby d1_1) _ ?_
    rw [len_of S_a1 N_a1]
    show Steps p.tables e below (s₁.setTop (mkF m 2 #[.val (.ref a1)] [(.int z_a1)])) _
    refine XS.iconst X0.here hx rfl (hb hby d1_2) ?_
    show Steps p.tables e below (s₁.setTop (mkF m 3 #[.val (.ref a1)] [(.int (3 : Int32)), (.int z_a1)])) _
    refine XS.icmpNo X0.here hx rfl (hb hby d1_3) rfl (flt hc3).1 ?_
    show Steps p.tables e below (s₁.setTop (mkF m 6 #[.val (.ref a1)] [])) _
    refine XS.aloadN X0.here hx rfl (hb hby d1_6) rfl rfl ?_
    show Steps p.tables e below (s₁.setTop (mkF m 7 #[.val (.ref a1)] [(.ref a1)])) _
    refine XS.iconst X0.here hx rfl (hb hby d1_7) ?_
    show Steps p.tables e below (s₁.setTop (mkF m 8 #[.val (.ref a1)] [(.int (1 : Int32)), (.ref a1)])) _
    refine X0.iaload hx (j := (1 : Int32)) (v := (.int w2)) (by rw [e0]; exact Ar_a1.1) (State.isArrayOf_alike hZ.alike Ar_a1.2.1) Ar_a1.2.2 hin8 hat8 (g := (mkF m 8 #[.val (.ref a1)] [(.int (1 : Int32)), (.ref a1)])) rfl rfl (hb hby d1_8) _ ?_
    show Steps p.tables e below (s₁.setTop (mkF m 9 #[.val (.ref a1)] [(.int w2)])) _
    refine XS.bipush X0.here hx rfl (hb hby d1_9) ?_
    show Steps p.tables e below (s₁.setTop (mkF m 11 #[.val (.ref a1)] [(.int (-3 : Int32)), (.int w2)])) _
    refine XS.icmpNo X0.here hx rfl (hb hby d1_11) rfl (teq hc11).2 ?_
    show Steps p.tables e below (s₁.setTop (mkF m 14 #[.val (.ref a1)] [])) _
    refine XS.iconst X0.here hx rfl (hb hby d1_14) ?_
    show Steps p.tables e below (s₁.setTop (mkF m 15 #[.val (.ref a1)] [(.int (1 : Int32))])) _
    refine XS.goto X0.here hx rfl (pc0 := 15) (pc' := 19) rfl (hb hby d1_15) (by decide) (by decide) ?_
    show Steps p.tables e below (s₁.setTop (mkF m 19 #[.val (.ref a1)] [(.int (1 : Int32))])) _
    exact retN X0 hx (t := .boolean) Bd.returns (by simp) (hb hby d1_19) hr
  · show QV (some (.int (1 : Int32))) h0 n0 _ s₁.heap _
    rw [e0]
    exact ⟨rfl, N0, rfl⟩
theorem rm1 (l : Launch) (Z : State) (a0 : Array Value) (hw : ∀ d ∈ tables_1, d.before a0 Z = true) (ws : List Jvm.Cond) (a1 : Addr) (k : ClassId) (z : Int32) (vs : List Value) (w : Int32) (h0 : Heap) (n0 : Nat) (Z0 : n0 ≤ h0.size) (V : Arv Z h0 a1 k .int z vs (.int (0 : Int32))) (hv : (1 : Int32) < z → vs.getD 1 (.int (0 : Int32)) = .int w) :
    MetFree l (⟨"com/example/restless_reasoner/restlessreasoner/engine/tableau/Premises", "isInequality", "([I)Z"⟩ : MethodName) (head1 (Jvm.Cond.code (⟨"com/example/restless_reasoner/restlessreasoner/engine/tableau/Premises", "isInequality", "([I)Z"⟩ : MethodName) prog_45_method_5_code 1 (some .boolean) :: ws) ({ frames := 0, cells := 0, slots := 0, locals := 0 } : Room)) (fun a U => a = #[(.ref a1)] ∧ Z.Warmed39 U.vm ∧ U.heap = h0) (fun _ _ _ _ _ => True) (fun _ U o U' => ∃ v L, o = .returned v ∧ QV (some (.int (own_isne z w))) h0 n0 v U'.heap L ∧ FrameEnd U o U' L ({ frames := 0, cells := 0, slots := 0, locals := 0 } : Room).cells ({ frames := 0, cells := 0, slots := 0, locals := 0 } : Room).slots) := by
  obtain ⟨cl, Ar, -, S, N, H, -⟩ := V
  by_cases hc3 : z < (3 : Int32)
  · have he : own_isne z w = (0 : Int32) := by unfold own_isne; rw [if_pos hc3]
    rw [he]; exact rm1_t l Z a0 hw ws a1 cl z h0 n0 Z0 Ar S N hc3
  · obtain ⟨hin, hat⟩ := own_hat S H (own_one3 hc3) (hv (own_one3 hc3))
    by_cases hc11 : w = (-3 : Int32)
    · have he : own_isne z w = (1 : Int32) := by unfold own_isne; rw [if_neg hc3, if_pos hc11]
      rw [he]; exact rm1_ff l Z a0 hw ws a1 cl z w h0 n0 Z0 Ar S N hin hat hc3 hc11
    · have he : own_isne z w = (0 : Int32) := by unfold own_isne; rw [if_neg hc3, if_neg hc11]
      rw [he]; exact rm1_ft l Z a0 hw ws a1 cl z w h0 n0 Z0 Ar S N hin hat hc3 hc11
theorem d2_0 : decode prog_45_method_6_code 0 = .ok (.aload_n 1, 1) := by decide +kernel
theorem d2_1 : decode prog_45_method_6_code 1 = .ok (.arraylength, 1) := by decide +kernel
theorem d2_2 : decode prog_45_method_6_code 2 = .ok (.iconst 1, 1) := by decide +kernel
theorem d2_3 : decode prog_45_method_6_code 3 = .ok (.iadd, 1) := by decide +kernel
theorem d2_4 : decode prog_45_method_6_code 4 = .ok (.newarray .int, 2) := by decide +kernel
theorem d2_6 : decode prog_45_method_6_code 6 = .ok (.astore_n 2, 1) := by decide +kernel
theorem d2_7 : decode prog_45_method_6_code 7 = .ok (.aload_n 2, 1) := by decide +kernel
theorem d2_8 : decode prog_45_method_6_code 8 = .ok (.iconst 0, 1) := by decide +kernel
theorem d2_9 : decode prog_45_method_6_code 9 = .ok (.aload_n 1, 1) := by decide +kernel
theorem d2_10 : decode prog_45_method_6_code 10 = .ok (.iconst 0, 1) := by decide +kernel
theorem d2_11 : decode prog_45_method_6_code 11 = .ok (.iaload, 1) := by decide +kernel
theorem d2_12 : decode prog_45_method_6_code 12 = .ok (.iastore, 1) := by decide +kernel
theorem d2_13 : decode prog_45_method_6_code 13 = .ok (.aload_n 2, 1) := by decide +kernel
theorem d2_14 : decode prog_45_method_6_code 14 = .ok (.iconst 1, 1) := by decide +kernel
theorem d2_15 : decode prog_45_method_6_code 15 = .ok (.iload_n 0, 1) := by decide +kernel
theorem d2_16 : decode prog_45_method_6_code 16 = .ok (.iastore, 1) := by decide +kernel
theorem d2_17 : decode prog_45_method_6_code 17 = .ok (.aload_n 1, 1) := by decide +kernel
theorem d2_18 : decode prog_45_method_6_code 18 = .ok (.iconst 1, 1) := by decide +kernel
theorem d2_19 : decode prog_45_method_6_code 19 = .ok (.aload_n 2, 1) := by decide +kernel
theorem d2_20 : decode prog_45_method_6_code 20 = .ok (.iconst 2, 1) := by decide +kernel
theorem d2_21 : decode prog_45_method_6_code 21 = .ok (.aload_n 1, 1) := by decide +kernel
theorem d2_22 : decode prog_45_method_6_code 22 = .ok (.arraylength, 1) := by decide +kernel
theorem d2_23 : decode prog_45_method_6_code 23 = .ok (.iconst 1, 1) := by decide +kernel
theorem d2_24 : decode prog_45_method_6_code 24 = .ok (.isub, 1) := by decide +kernel
theorem d2_25 : decode prog_45_method_6_code 25 = .ok (.invokestatic 42, 3) := by decide +kernel
theorem d2_28 : decode prog_45_method_6_code 28 = .ok (.aload_n 2, 1) := by decide +kernel
theorem d2_29 : decode prog_45_method_6_code 29 = .ok (.areturn, 1) := by decide +kernel
theorem pn_2 : plainName "com/example/restless_reasoner/restlessreasoner/engine/tableau/Premises" = true := by first | (simp [plainName, overriddenIn]; done) | decide +kernel
theorem ef_2 (m : MethodId) (x0 : Int32) (x1 : Addr) : entryFrame m #[(.int x0), (.ref x1)] 3 = mkF m 0 #[.val (.int x0), .val (.ref x1), .unset] [] := by first | (simp [entryFrame, mkF, argsToLocals, Value.category]; done) | rfl
set_option maxRecDepth 65536 in
set_option maxHeartbeats 40000000 in
theorem rm2_2 (l : Launch) (Z : State) (a0 : Array Value) (hw : ∀ d ∈ tables_1, d.before a0 Z = true) (ws : List Jvm.Cond) (p1 : Int32) (a2 : Addr) (k_a2 : ClassId) (x0_a2 : Int32) (x1_a2 : Int32) (x2_a2 : Int32) (h0 : Heap) (n0 : Nat) (Z0 : n0 ≤ h0.size) (V_a2 : Arv Z h0 a2 k_a2 .int (2 : Int32) [(.int x0_a2), (.int x1_a2), (.int x2_a2)] (.int (0 : Int32))) :
    MetFree l (⟨"com/example/restless_reasoner/restlessreasoner/engine/tableau/Premises", "identity", "(I[I)[I"⟩ : MethodName) (head1 (Jvm.Cond.code (⟨"com/example/restless_reasoner/restlessreasoner/engine/tableau/Premises", "identity", "(I[I)[I"⟩ : MethodName) prog_45_method_6_code 3 (some (.array .int)) :: ws) ({ frames := 1, cells := 1, slots := 4, locals := 18 } : Room)) (fun a U => a = #[(.int p1), (.ref a2)] ∧ Z.Warmed39 U.vm ∧ U.heap = h0) (fun _ _ _ _ _ => True) (fun _ U o U' => ∃ v L, o = .returned v ∧ QI Z (2 : Int32) p1 h0 n0 v U'.heap L ∧ FrameEnd U o U' L ({ frames := 1, cells := 1, slots := 4, locals := 18 } : Room).cells ({ frames := 1, cells := 1, slots := 4, locals := 18 } : Room).slots) := by
  refine MetFree.of_bodySF (plainFor_of_name pn_2) hisR ?_
  intro p e s m args below meth c s₁ Bd hml0 hP hK
  obtain ⟨rfl, hZ, hh⟩ := hP
  have hx := Bd.exec
  have hby := Bd.bytes
  have hml : c.maxLocals = 3 := hml0
  have hown : s.vm.findClass "com/example/restless_reasoner/restlessreasoner/engine/tableau/Premises" = some m.cls := findClass_of_methodNamed Bd.named
  have hnm := (name_of_methodNamed Bd.named Bd.method).1
  have X0 : Stand p l e ({ frames := 1, cells := 1, slots := 4, locals := 18 } : Room) s m #[(.int p1), (.ref a2)] below meth c s₁ [] 0 0 := Stand.of_body Bd
  have e0 : s₁.heap = h0 := by rw [← hh, Bd.state]; rfl
  have N0 := Fr.nil n0
  have pre0 : ∀ t, Steps p.tables e below (s₁.setTop (mkF m 0 #[.val (.int p1), .val (.ref a2), .unset] [])) t → Steps p.tables e below (s₁.setTop (entryFrame m #[(.int p1), (.ref a2)] 3)) t := fun t k => castTop (ef_2 m p1 a2) k
  have Vo1 := V_a2
  obtain ⟨cl1_, Ar1_, -, S1_, N1_, -, -⟩ := Vo1
  obtain ⟨T3, h3, k3, X3, e3, E3, A3, st3⟩ := newP X0 hx hZ (hw _ (List.mem_of_getElem? (i := 1) rfl)) e0 (g := (mkF m 4 #[.val (.int p1), .val (.ref a2), .unset] [(.int (3 : Int32))])) rfl (hb hby d2_4) rfl (by decide) (cap := 4) (by decide) (by decide) (by decide) (by decide)
  obtain ⟨b3, g3⟩ : ∃ z, z = h0.size := ⟨_, rfl⟩
  rw [← g3] at A3 st3
  have V_b3 : Arv Z h3 b3 k3 .int (3 : Int32) [(.int (0 : Int32)), (.int (0 : Int32)), (.int (0 : Int32))] (.int (0 : Int32)) := (Arv.new A3 (by decide)).pad (pad_rep [] (.int (0 : Int32)) 3)
  have g_b3 : n0 ≤ b3 := Nat.le_trans Z0 (Nat.le_of_eq g3.symm)
  have sz_b3 : h0.size ≤ b3 := (Nat.le_trans (Keep.refl h0 []).1 (Nat.le_of_eq g3.symm))
  have K3 : Keep h0 h3 [] := (Keep.refl h0 []).ext E3
  have Vo11 := (V_a2.ext E3)
  obtain ⟨cl11_, Ar11_, q11_, S11_, N11_, H11_, G11_⟩ := Vo11
  have hin11 : ¬ ((0 : Int32) < 0 ∨ cl11_.slots.size ≤ ((0 : Int32)).toNatClampNeg) := inb_of S11_ ⟨by decide, by decide⟩
  have hat11 : cl11_.slots[((0 : Int32)).toNatClampNeg]? = some (.int x0_a2) := H11_ _ (by rw [S11_]; decide)
  obtain ⟨cl_b3_12, Ar_b3, q_b3, S_b3, N_b3, H_b3, G_b3⟩ := V_b3
  have hin12 : ¬ ((0 : Int32) < 0 ∨ cl_b3_12.slots.size ≤ ((0 : Int32)).toNatClampNeg) := inb_of S_b3 ⟨by decide, by decide⟩
  obtain ⟨T4, h4, X4, e4, W4, st4⟩ := stI X3 hx hZ e3 Ar_b3 (j := (0 : Int32)) hin12 (g := (mkF m 12 #[.val (.int p1), .val (.ref a2), .val (.ref b3)] [(.int x0_a2), (.int (0 : Int32)), (.ref b3)])) rfl rfl (hb hby d2_12)
  have V_b3_4 := Arv.set Ar_b3 q_b3 S_b3 N_b3 H_b3 G_b3 rfl W4 0 rfl (Nat.le_of_ble_eq_true rfl)
  have K4 : Keep h0 h4 [] := K3.wr W4 (Or.inr sz_b3)
  have N4 := Fr.snoc X4 N0 g_b3
  obtain ⟨cl_b3_16, Ar_b3, q_b3, S_b3, N_b3, H_b3, G_b3⟩ := V_b3_4
  have hin16 : ¬ ((1 : Int32) < 0 ∨ cl_b3_16.slots.size ≤ ((1 : Int32)).toNatClampNeg) := inb_of S_b3 ⟨by decide, by decide⟩
  obtain ⟨T5, h5, X5, e5, W5, st5⟩ := stI X4 hx hZ e4 Ar_b3 (j := (1 : Int32)) hin16 (g := (mkF m 16 #[.val (.int p1), .val (.ref a2), .val (.ref b3)] [(.int p1), (.int (1 : Int32)), (.ref b3)])) rfl rfl (hb hby d2_16)
  have V_b3_5 := Arv.set Ar_b3 q_b3 S_b3 N_b3 H_b3 G_b3 rfl W5 1 rfl (Nat.le_of_ble_eq_true rfl)
  have K5 : Keep h0 h5 [] := K4.wr W5 (Or.inr sz_b3)
  have N5 := Fr.snoc X5 N4 g_b3
  have Vo22 := (((V_a2.ext E3).other W4 (Nat.ne_of_lt (Nat.lt_of_lt_of_le V_a2.lt (Nat.le_of_eq g3.symm)))).other W5 (Nat.ne_of_lt (Nat.lt_of_lt_of_le V_a2.lt (Nat.le_of_eq g3.symm))))
  obtain ⟨cl22_, Ar22_, -, S22_, N22_, -, -⟩ := Vo22
  obtain ⟨T6, h6, L6, X6, e6, N6, Kw6, V_b3_6, st6⟩ := cpA X5 hx hZ hown (hw _ (List.mem_of_getElem? (i := 9) rfl)) (hw _ (List.mem_of_getElem? (i := 12) rfl)) (hw _ (List.mem_of_getElem? (i := 10) rfl)) (hw _ (List.mem_of_getElem? (i := 11) rfl)) e5 (((V_a2.ext E3).other W4 (Nat.ne_of_lt (Nat.lt_of_lt_of_le V_a2.lt (Nat.le_of_eq g3.symm)))).other W5 (Nat.ne_of_lt (Nat.lt_of_lt_of_le V_a2.lt (Nat.le_of_eq g3.symm)))) V_b3_5 (Or.inl ⟨rfl, rfl⟩) (sp := (1 : Int32)) (dp := (2 : Int32)) (nn := (1 : Int32)) (by decide) (by decide) (by decide) (by decide) (by decide) rfl (Nat.le_of_ble_eq_true rfl) N5 g_b3 (g := (mkF m 25 #[.val (.int p1), .val (.ref a2), .val (.ref b3)] [(.int (1 : Int32)), (.int (2 : Int32)), (.ref b3), (.int (1 : Int32)), (.ref a2)])) rfl (by rw [hml]; rfl) rfl (hb hby d2_25) (by decide) (W := 0) (by show 2 * 0 + _ ≤ _; exact Nat.le_of_eq rfl) (by decide)
  have K6 : Keep h0 h6 [] := K5.trans Kw6 (fun x hx => by cases List.mem_singleton.mp hx; exact Or.inr sz_b3)
  obtain ⟨fs, hr, hrun, hended, hW, hsame⟩ := X6.leave (v := some (.ref b3)) (fun h => by rw [Bd.returns] at h; cases h)
  refine ⟨_, _, pre0 _ ?_, hrun, hended, _, _, rfl, ?_, ⟨_, rfl⟩, hW, hsame.mono (by decide) (by decide)⟩
  · show Steps p.tables e below (s₁.setTop (mkF m 0 #[.val (.int p1), .val (.ref a2), .unset] [])) _
    refine XS.aloadN X0.here hx rfl (hb hby d2_0) rfl rfl ?_
    show Steps p.tables e below (s₁.setTop (mkF m 1 #[.val (.int p1), .val (.ref a2), .unset] [(.ref a2)])) _
    refine X0.arraylength hx (by rw [e0]; exact Ar1_.1) (State.isArrayOf_alike hZ.alike Ar1_.2.1) (g := (mkF m 1 #[.val (.int p1), .val (.ref a2), .unset] [(.ref a2)])) rfl rfl (hb hby d2_1) _ ?_
    rw [len_of S1_ N1_]
    show Steps p.tables e below (s₁.setTop (mkF m 2 #[.val (.int p1), .val (.ref a2), .unset] [(.int (2 : Int32))])) _
    refine XS.iconst X0.here hx rfl (hb hby d2_2) ?_
    show Steps p.tables e below (s₁.setTop (mkF m 3 #[.val (.int p1), .val (.ref a2), .unset] [(.int (1 : Int32)), (.int (2 : Int32))])) _
    refine XS.iadd X0.here hx rfl (hb hby d2_3) rfl ?_
    show Steps p.tables e below (s₁.setTop (mkF m 4 #[.val (.int p1), .val (.ref a2), .unset] [(.int (3 : Int32))])) _
    refine st3 _ ?_
    show Steps p.tables e below (T3.setTop (mkF m 6 #[.val (.int p1), .val (.ref a2), .unset] [(.ref b3)])) _
    refine XS.astoreN X3.here hx rfl (hb hby d2_6) rfl rfl (l' := #[.val (.int p1), .val (.ref a2), .val (.ref b3)]) rfl ?_
    show Steps p.tables e below (T3.setTop (mkF m 7 #[.val (.int p1), .val (.ref a2), .val (.ref b3)] [])) _
    refine XS.aloadN X3.here hx rfl (hb hby d2_7) rfl rfl ?_
    show Steps p.tables e below (T3.setTop (mkF m 8 #[.val (.int p1), .val (.ref a2), .val (.ref b3)] [(.ref b3)])) _
    refine XS.iconst X3.here hx rfl (hb hby d2_8) ?_
    show Steps p.tables e below (T3.setTop (mkF m 9 #[.val (.int p1), .val (.ref a2), .val (.ref b3)] [(.int (0 : Int32)), (.ref b3)])) _
    refine XS.aloadN X3.here hx rfl (hb hby d2_9) rfl rfl ?_
    show Steps p.tables e below (T3.setTop (mkF m 10 #[.val (.int p1), .val (.ref a2), .val (.ref b3)] [(.ref a2), (.int (0 : Int32)), (.ref b3)])) _
    refine XS.iconst X3.here hx rfl (hb hby d2_10) ?_
    show Steps p.tables e below (T3.setTop (mkF m 11 #[.val (.int p1), .val (.ref a2), .val (.ref b3)] [(.int (0 : Int32)), (.ref a2), (.int (0 : Int32)), (.ref b3)])) _
    refine X3.iaload hx (j := (0 : Int32)) (v := (.int x0_a2)) (by rw [e3]; exact Ar11_.1) (State.isArrayOf_alike hZ.alike Ar11_.2.1) Ar11_.2.2 hin11 hat11 (g := (mkF m 11 #[.val (.int p1), .val (.ref a2), .val (.ref b3)] [(.int (0 : Int32)), (.ref a2), (.int (0 : Int32)), (.ref b3)])) rfl rfl (hb hby d2_11) _ ?_
    show Steps p.tables e below (T3.setTop (mkF m 12 #[.val (.int p1), .val (.ref a2), .val (.ref b3)] [(.int x0_a2), (.int (0 : Int32)), (.ref b3)])) _
    refine st4 _ ?_
    show Steps p.tables e below (T4.setTop (mkF m 13 #[.val (.int p1), .val (.ref a2), .val (.ref b3)] [])) _
    refine XS.aloadN X4.here hx rfl (hb hby d2_13) rfl rfl ?_
    show Steps p.tables e below (T4.setTop (mkF m 14 #[.val (.int p1), .val (.ref a2), .val (.ref b3)] [(.ref b3)])) _
    refine XS.iconst X4.here hx rfl (hb hby d2_14) ?_
    show Steps p.tables e below (T4.setTop (mkF m 15 #[.val (.int p1), .val (.ref a2), .val (.ref b3)] [(.int (1 : Int32)), (.ref b3)])) _
    refine XS.iloadN X4.here hx rfl (hb hby d2_15) rfl ?_
    show Steps p.tables e below (T4.setTop (mkF m 16 #[.val (.int p1), .val (.ref a2), .val (.ref b3)] [(.int p1), (.int (1 : Int32)), (.ref b3)])) _
    refine st5 _ ?_
    show Steps p.tables e below (T5.setTop (mkF m 17 #[.val (.int p1), .val (.ref a2), .val (.ref b3)] [])) _
    refine XS.aloadN X5.here hx rfl (hb hby d2_17) rfl rfl ?_
    show Steps p.tables e below (T5.setTop (mkF m 18 #[.val (.int p1), .val (.ref a2), .val (.ref b3)] [(.ref a2)])) _
    refine XS.iconst X5.here hx rfl (hb hby d2_18) ?_
    show Steps p.tables e below (T5.setTop (mkF m 19 #[.val (.int p1), .val (.ref a2), .val (.ref b3)] [(.int (1 : Int32)), (.ref a2)])) _
    refine XS.aloadN X5.here hx rfl (hb hby d2_19) rfl rfl ?_
    show Steps p.tables e below (T5.setTop (mkF m 20 #[.val (.int p1), .val (.ref a2), .val (.ref b3)] [(.ref b3), (.int (1 : Int32)), (.ref a2)])) _
    refine XS.iconst X5.here hx rfl (hb hby d2_20) ?_
    show Steps p.tables e below (T5.setTop (mkF m 21 #[.val (.int p1), .val (.ref a2), .val (.ref b3)] [(.int (2 : Int32)), (.ref b3), (.int (1 : Int32)), (.ref a2)])) _
    refine XS.aloadN X5.here hx rfl (hb hby d2_21) rfl rfl ?_
    show Steps p.tables e below (T5.setTop (mkF m 22 #[.val (.int p1), .val (.ref a2), .val (.ref b3)] [(.ref a2), (.int (2 : Int32)), (.ref b3), (.int (1 : Int32)), (.ref a2)])) _
    refine X5.arraylength hx (by rw [e5]; exact Ar22_.1) (State.isArrayOf_alike hZ.alike Ar22_.2.1) (g := (mkF m 22 #[.val (.int p1), .val (.ref a2), .val (.ref b3)] [(.ref a2), (.int (2 : Int32)), (.ref b3), (.int (1 : Int32)), (.ref a2)])) rfl rfl (hb hby d2_22) _ ?_
    rw [len_of S22_ N22_]
    show Steps p.tables e below (T5.setTop (mkF m 23 #[.val (.int p1), .val (.ref a2), .val (.ref b3)] [(.int (2 : Int32)), (.int (2 : Int32)), (.ref b3), (.int (1 : Int32)), (.ref a2)])) _
    refine XS.iconst X5.here hx rfl (hb hby d2_23) ?_
    show Steps p.tables e below (T5.setTop (mkF m 24 #[.val (.int p1), .val (.ref a2), .val (.ref b3)] [(.int (1 : Int32)), (.int (2 : Int32)), (.int (2 : Int32)), (.ref b3), (.int (1 : Int32)), (.ref a2)])) _
    refine XS.isub X5.here hx rfl (hb hby d2_24) rfl ?_
    show Steps p.tables e below (T5.setTop (mkF m 25 #[.val (.int p1), .val (.ref a2), .val (.ref b3)] [(.int (1 : Int32)), (.int (2 : Int32)), (.ref b3), (.int (1 : Int32)), (.ref a2)])) _
    refine st6 _ ?_
    show Steps p.tables e below (T6.setTop (mkF m 28 #[.val (.int p1), .val (.ref a2), .val (.ref b3)] [])) _
    refine XS.aloadN X6.here hx rfl (hb hby d2_28) rfl rfl ?_
    show Steps p.tables e below (T6.setTop (mkF m 29 #[.val (.int p1), .val (.ref a2), .val (.ref b3)] [(.ref b3)])) _
    jvm_step X6.here [X6.here.top, hx, (hb hby d2_29), X6.method', Bd.returns, Value.isRef, FieldType.isReference]
    first | (intro acts; rw [hr _ acts rfl rfl rfl]) | rw [hr _ _ rfl rfl rfl]
    exact Steps.refl _
  · show QI Z (2 : Int32) p1 h0 n0 _ T6.heap _
    rw [e6]
    exact ⟨b3, k3, _, rfl, N6, K6, g_b3, sz_b3, V_b3_6, rfl⟩
set_option maxRecDepth 65536 in
set_option maxHeartbeats 40000000 in
theorem rm2_3 (l : Launch) (Z : State) (a0 : Array Value) (hw : ∀ d ∈ tables_1, d.before a0 Z = true) (ws : List Jvm.Cond) (p1 : Int32) (a2 : Addr) (k_a2 : ClassId) (x0_a2 : Int32) (x1_a2 : Int32) (x2_a2 : Int32) (h0 : Heap) (n0 : Nat) (Z0 : n0 ≤ h0.size) (V_a2 : Arv Z h0 a2 k_a2 .int (3 : Int32) [(.int x0_a2), (.int x1_a2), (.int x2_a2)] (.int (0 : Int32))) :
    MetFree l (⟨"com/example/restless_reasoner/restlessreasoner/engine/tableau/Premises", "identity", "(I[I)[I"⟩ : MethodName) (head1 (Jvm.Cond.code (⟨"com/example/restless_reasoner/restlessreasoner/engine/tableau/Premises", "identity", "(I[I)[I"⟩ : MethodName) prog_45_method_6_code 3 (some (.array .int)) :: ws) ({ frames := 1, cells := 1, slots := 4, locals := 18 } : Room)) (fun a U => a = #[(.int p1), (.ref a2)] ∧ Z.Warmed39 U.vm ∧ U.heap = h0) (fun _ _ _ _ _ => True) (fun _ U o U' => ∃ v L, o = .returned v ∧ QI Z (3 : Int32) p1 h0 n0 v U'.heap L ∧ FrameEnd U o U' L ({ frames := 1, cells := 1, slots := 4, locals := 18 } : Room).cells ({ frames := 1, cells := 1, slots := 4, locals := 18 } : Room).slots) := by
  refine MetFree.of_bodySF (plainFor_of_name pn_2) hisR ?_
  intro p e s m args below meth c s₁ Bd hml0 hP hK
  obtain ⟨rfl, hZ, hh⟩ := hP
  have hx := Bd.exec
  have hby := Bd.bytes
  have hml : c.maxLocals = 3 := hml0
  have hown : s.vm.findClass "com/example/restless_reasoner/restlessreasoner/engine/tableau/Premises" = some m.cls := findClass_of_methodNamed Bd.named
  have hnm := (name_of_methodNamed Bd.named Bd.method).1
  have X0 : Stand p l e ({ frames := 1, cells := 1, slots := 4, locals := 18 } : Room) s m #[(.int p1), (.ref a2)] below meth c s₁ [] 0 0 := Stand.of_body Bd
  have e0 : s₁.heap = h0 := by rw [← hh, Bd.state]; rfl
  have N0 := Fr.nil n0
  have pre0 : ∀ t, Steps p.tables e below (s₁.setTop (mkF m 0 #[.val (.int p1), .val (.ref a2), .unset] [])) t → Steps p.tables e below (s₁.setTop (entryFrame m #[(.int p1), (.ref a2)] 3)) t := fun t k => castTop (ef_2 m p1 a2) k
  have Vo1 := V_a2
  obtain ⟨cl1_, Ar1_, -, S1_, N1_, -, -⟩ := Vo1
  obtain ⟨T3, h3, k3, X3, e3, E3, A3, st3⟩ := newP X0 hx hZ (hw _ (List.mem_of_getElem? (i := 1) rfl)) e0 (g := (mkF m 4 #[.val (.int p1), .val (.ref a2), .unset] [(.int (4 : Int32))])) rfl (hb hby d2_4) rfl (by decide) (cap := 4) (by decide) (by decide) (by decide) (by decide)
  obtain ⟨b3, g3⟩ : ∃ z, z = h0.size := ⟨_, rfl⟩
  rw [← g3] at A3 st3
  have V_b3 : Arv Z h3 b3 k3 .int (4 : Int32) [(.int (0 : Int32)), (.int (0 : Int32)), (.int (0 : Int32)), (.int (0 : Int32))] (.int (0 : Int32)) := (Arv.new A3 (by decide)).pad (pad_rep [] (.int (0 : Int32)) 4)
  have g_b3 : n0 ≤ b3 := Nat.le_trans Z0 (Nat.le_of_eq g3.symm)
  have sz_b3 : h0.size ≤ b3 := (Nat.le_trans (Keep.refl h0 []).1 (Nat.le_of_eq g3.symm))
  have K3 : Keep h0 h3 [] := (Keep.refl h0 []).ext E3
  have Vo11 := (V_a2.ext E3)
  obtain ⟨cl11_, Ar11_, q11_, S11_, N11_, H11_, G11_⟩ := Vo11
  have hin11 : ¬ ((0 : Int32) < 0 ∨ cl11_.slots.size ≤ ((0 : Int32)).toNatClampNeg) := inb_of S11_ ⟨by decide, by decide⟩
  have hat11 : cl11_.slots[((0 : Int32)).toNatClampNeg]? = some (.int x0_a2) := H11_ _ (by rw [S11_]; decide)
  obtain ⟨cl_b3_12, Ar_b3, q_b3, S_b3, N_b3, H_b3, G_b3⟩ := V_b3
  have hin12 : ¬ ((0 : Int32) < 0 ∨ cl_b3_12.slots.size ≤ ((0 : Int32)).toNatClampNeg) := inb_of S_b3 ⟨by decide, by decide⟩
  obtain ⟨T4, h4, X4, e4, W4, st4⟩ := stI X3 hx hZ e3 Ar_b3 (j := (0 : Int32)) hin12 (g := (mkF m 12 #[.val (.int p1), .val (.ref a2), .val (.ref b3)] [(.int x0_a2), (.int (0 : Int32)), (.ref b3)])) rfl rfl (hb hby d2_12)
  have V_b3_4 := Arv.set Ar_b3 q_b3 S_b3 N_b3 H_b3 G_b3 rfl W4 0 rfl (Nat.le_of_ble_eq_true rfl)
  have K4 : Keep h0 h4 [] := K3.wr W4 (Or.inr sz_b3)
  have N4 := Fr.snoc X4 N0 g_b3
  obtain ⟨cl_b3_16, Ar_b3, q_b3, S_b3, N_b3, H_b3, G_b3⟩ := V_b3_4
  have hin16 : ¬ ((1 : Int32) < 0 ∨ cl_b3_16.slots.size ≤ ((1 : Int32)).toNatClampNeg) := inb_of S_b3 ⟨by decide, by decide⟩
  obtain ⟨T5, h5, X5, e5, W5, st5⟩ := stI X4 hx hZ e4 Ar_b3 (j := (1 : Int32)) hin16 (g := (mkF m 16 #[.val (.int p1), .val (.ref a2), .val (.ref b3)] [(.int p1), (.int (1 : Int32)), (.ref b3)])) rfl rfl (hb hby d2_16)
  have V_b3_5 := Arv.set Ar_b3 q_b3 S_b3 N_b3 H_b3 G_b3 rfl W5 1 rfl (Nat.le_of_ble_eq_true rfl)
  have K5 : Keep h0 h5 [] := K4.wr W5 (Or.inr sz_b3)
  have N5 := Fr.snoc X5 N4 g_b3
  have Vo22 := (((V_a2.ext E3).other W4 (Nat.ne_of_lt (Nat.lt_of_lt_of_le V_a2.lt (Nat.le_of_eq g3.symm)))).other W5 (Nat.ne_of_lt (Nat.lt_of_lt_of_le V_a2.lt (Nat.le_of_eq g3.symm))))
  obtain ⟨cl22_, Ar22_, -, S22_, N22_, -, -⟩ := Vo22
  obtain ⟨T6, h6, L6, X6, e6, N6, Kw6, V_b3_6, st6⟩ := cpA X5 hx hZ hown (hw _ (List.mem_of_getElem? (i := 9) rfl)) (hw _ (List.mem_of_getElem? (i := 12) rfl)) (hw _ (List.mem_of_getElem? (i := 10) rfl)) (hw _ (List.mem_of_getElem? (i := 11) rfl)) e5 (((V_a2.ext E3).other W4 (Nat.ne_of_lt (Nat.lt_of_lt_of_le V_a2.lt (Nat.le_of_eq g3.symm)))).other W5 (Nat.ne_of_lt (Nat.lt_of_lt_of_le V_a2.lt (Nat.le_of_eq g3.symm)))) V_b3_5 (Or.inl ⟨rfl, rfl⟩) (sp := (1 : Int32)) (dp := (2 : Int32)) (nn := (2 : Int32)) (by decide) (by decide) (by decide) (by decide) (by decide) rfl (Nat.le_of_ble_eq_true rfl) N5 g_b3 (g := (mkF m 25 #[.val (.int p1), .val (.ref a2), .val (.ref b3)] [(.int (2 : Int32)), (.int (2 : Int32)), (.ref b3), (.int (1 : Int32)), (.ref a2)])) rfl (by rw [hml]; rfl) rfl (hb hby d2_25) (by decide) (W := 0) (by show 2 * 0 + _ ≤ _; exact Nat.le_of_eq rfl) (by decide)
  have K6 : Keep h0 h6 [] := K5.trans Kw6 (fun x hx => by cases List.mem_singleton.mp hx; exact Or.inr sz_b3)
  obtain ⟨fs, hr, hrun, hended, hW, hsame⟩ := X6.leave (v := some (.ref b3)) (fun h => by rw [Bd.returns] at h; cases h)
  refine ⟨_, _, pre0 _ ?_, hrun, hended, _, _, rfl, ?_, ⟨_, rfl⟩, hW, hsame.mono (by decide) (by decide)⟩
  · show Steps p.tables e below (s₁.setTop (mkF m 0 #[.val (.int p1), .val (.ref a2), .unset] [])) _
    refine XS.aloadN X0.here hx rfl (hb hby d2_0) rfl rfl ?_
    show Steps p.tables e below (s₁.setTop (mkF m 1 #[.val (.int p1), .val (.ref a2), .unset] [(.ref a2)])) _
    refine X0.arraylength hx (by rw [e0]; exact Ar1_.1) (State.isArrayOf_alike hZ.alike Ar1_.2.1) (g := (mkF m 1 #[.val (.int p1), .val (.ref a2), .unset] [(.ref a2)])) rfl rfl (hb hby d2_1) _ ?_
    rw [len_of S1_ N1_]
    show Steps p.tables e below (s₁.setTop (mkF m 2 #[.val (.int p1), .val (.ref a2), .unset] [(.int (3 : Int32))])) _
    refine XS.iconst X0.here hx rfl (hb hby d2_2) ?_
    show Steps p.tables e below (s₁.setTop (mkF m 3 #[.val (.int p1), .val (.ref a2), .unset] [(.int (1 : Int32)), (.int (3 : Int32))])) _
    refine XS.iadd X0.here hx rfl (hb hby d2_3) rfl ?_
    show Steps p.tables e below (s₁.setTop (mkF m 4 #[.val (.int p1), .val (.ref a2), .unset] [(.int (4 : Int32))])) _
    refine st3 _ ?_
    show Steps p.tables e below (T3.setTop (mkF m 6 #[.val (.int p1), .val (.ref a2), .unset] [(.ref b3)])) _
    refine XS.astoreN X3.here hx rfl (hb hby d2_6) rfl rfl (l' := #[.val (.int p1), .val (.ref a2), .val (.ref b3)]) rfl ?_
    show Steps p.tables e below (T3.setTop (mkF m 7 #[.val (.int p1), .val (.ref a2), .val (.ref b3)] [])) _
    refine XS.aloadN X3.here hx rfl (hb hby d2_7) rfl rfl ?_
    show Steps p.tables e below (T3.setTop (mkF m 8 #[.val (.int p1), .val (.ref a2), .val (.ref b3)] [(.ref b3)])) _
    refine XS.iconst X3.here hx rfl (hb hby d2_8) ?_
    show Steps p.tables e below (T3.setTop (mkF m 9 #[.val (.int p1), .val (.ref a2), .val (.ref b3)] [(.int (0 : Int32)), (.ref b3)])) _
    refine XS.aloadN X3.here hx rfl (hb hby d2_9) rfl rfl ?_
    show Steps p.tables e below (T3.setTop (mkF m 10 #[.val (.int p1), .val (.ref a2), .val (.ref b3)] [(.ref a2), (.int (0 : Int32)), (.ref b3)])) _
    refine XS.iconst X3.here hx rfl (hb hby d2_10) ?_
    show Steps p.tables e below (T3.setTop (mkF m 11 #[.val (.int p1), .val (.ref a2), .val (.ref b3)] [(.int (0 : Int32)), (.ref a2), (.int (0 : Int32)), (.ref b3)])) _
    refine X3.iaload hx (j := (0 : Int32)) (v := (.int x0_a2)) (by rw [e3]; exact Ar11_.1) (State.isArrayOf_alike hZ.alike Ar11_.2.1) Ar11_.2.2 hin11 hat11 (g := (mkF m 11 #[.val (.int p1), .val (.ref a2), .val (.ref b3)] [(.int (0 : Int32)), (.ref a2), (.int (0 : Int32)), (.ref b3)])) rfl rfl (hb hby d2_11) _ ?_
    show Steps p.tables e below (T3.setTop (mkF m 12 #[.val (.int p1), .val (.ref a2), .val (.ref b3)] [(.int x0_a2), (.int (0 : Int32)), (.ref b3)])) _
    refine st4 _ ?_
    show Steps p.tables e below (T4.setTop (mkF m 13 #[.val (.int p1), .val (.ref a2), .val (.ref b3)] [])) _
    refine XS.aloadN X4.here hx rfl (hb hby d2_13) rfl rfl ?_
    show Steps p.tables e below (T4.setTop (mkF m 14 #[.val (.int p1), .val (.ref a2), .val (.ref b3)] [(.ref b3)])) _
    refine XS.iconst X4.here hx rfl (hb hby d2_14) ?_
    show Steps p.tables e below (T4.setTop (mkF m 15 #[.val (.int p1), .val (.ref a2), .val (.ref b3)] [(.int (1 : Int32)), (.ref b3)])) _
    refine XS.iloadN X4.here hx rfl (hb hby d2_15) rfl ?_
    show Steps p.tables e below (T4.setTop (mkF m 16 #[.val (.int p1), .val (.ref a2), .val (.ref b3)] [(.int p1), (.int (1 : Int32)), (.ref b3)])) _
    refine st5 _ ?_
    show Steps p.tables e below (T5.setTop (mkF m 17 #[.val (.int p1), .val (.ref a2), .val (.ref b3)] [])) _
    refine XS.aloadN X5.here hx rfl (hb hby d2_17) rfl rfl ?_
    show Steps p.tables e below (T5.setTop (mkF m 18 #[.val (.int p1), .val (.ref a2), .val (.ref b3)] [(.ref a2)])) _
    refine XS.iconst X5.here hx rfl (hb hby d2_18) ?_
    show Steps p.tables e below (T5.setTop (mkF m 19 #[.val (.int p1), .val (.ref a2), .val (.ref b3)] [(.int (1 : Int32)), (.ref a2)])) _
    refine XS.aloadN X5.here hx rfl (hb hby d2_19) rfl rfl ?_
    show Steps p.tables e below (T5.setTop (mkF m 20 #[.val (.int p1), .val (.ref a2), .val (.ref b3)] [(.ref b3), (.int (1 : Int32)), (.ref a2)])) _
    refine XS.iconst X5.here hx rfl (hb hby d2_20) ?_
    show Steps p.tables e below (T5.setTop (mkF m 21 #[.val (.int p1), .val (.ref a2), .val (.ref b3)] [(.int (2 : Int32)), (.ref b3), (.int (1 : Int32)), (.ref a2)])) _
    refine XS.aloadN X5.here hx rfl (hb hby d2_21) rfl rfl ?_
    show Steps p.tables e below (T5.setTop (mkF m 22 #[.val (.int p1), .val (.ref a2), .val (.ref b3)] [(.ref a2), (.int (2 : Int32)), (.ref b3), (.int (1 : Int32)), (.ref a2)])) _
    refine X5.arraylength hx (by rw [e5]; exact Ar22_.1) (State.isArrayOf_alike hZ.alike Ar22_.2.1) (g := (mkF m 22 #[.val (.int p1), .val (.ref a2), .val (.ref b3)] [(.ref a2), (.int (2 : Int32)), (.ref b3), (.int (1 : Int32)), (.ref a2)])) rfl rfl (hb hby d2_22) _ ?_
    rw [len_of S22_ N22_]
    show Steps p.tables e below (T5.setTop (mkF m 23 #[.val (.int p1), .val (.ref a2), .val (.ref b3)] [(.int (3 : Int32)), (.int (2 : Int32)), (.ref b3), (.int (1 : Int32)), (.ref a2)])) _
    refine XS.iconst X5.here hx rfl (hb hby d2_23) ?_
    show Steps p.tables e below (T5.setTop (mkF m 24 #[.val (.int p1), .val (.ref a2), .val (.ref b3)] [(.int (1 : Int32)), (.int (3 : Int32)), (.int (2 : Int32)), (.ref b3), (.int (1 : Int32)), (.ref a2)])) _
    refine XS.isub X5.here hx rfl (hb hby d2_24) rfl ?_
    show Steps p.tables e below (T5.setTop (mkF m 25 #[.val (.int p1), .val (.ref a2), .val (.ref b3)] [(.int (2 : Int32)), (.int (2 : Int32)), (.ref b3), (.int (1 : Int32)), (.ref a2)])) _
    refine st6 _ ?_
    show Steps p.tables e below (T6.setTop (mkF m 28 #[.val (.int p1), .val (.ref a2), .val (.ref b3)] [])) _
    refine XS.aloadN X6.here hx rfl (hb hby d2_28) rfl rfl ?_
    show Steps p.tables e below (T6.setTop (mkF m 29 #[.val (.int p1), .val (.ref a2), .val (.ref b3)] [(.ref b3)])) _
    jvm_step X6.here [X6.here.top, hx, (hb hby d2_29), X6.method', Bd.returns, Value.isRef, FieldType.isReference]
    first | (intro acts; rw [hr _ acts rfl rfl rfl]) | rw [hr _ _ rfl rfl rfl]
    exact Steps.refl _
  · show QI Z (3 : Int32) p1 h0 n0 _ T6.heap _
    rw [e6]
    exact ⟨b3, k3, _, rfl, N6, K6, g_b3, sz_b3, V_b3_6, rfl⟩
theorem rm2 (l : Launch) (Z : State) (a0 : Array Value) (hw : ∀ d ∈ tables_1, d.before a0 Z = true) (ws : List Jvm.Cond) (p1 : Int32) (a2 : Addr) (k : ClassId) (z x0 x1 x2 : Int32) (h0 : Heap) (n0 : Nat) (Z0 : n0 ≤ h0.size) (hz : z = (2 : Int32) ∨ z = (3 : Int32)) (V : Arv Z h0 a2 k .int z [(.int x0), (.int x1), (.int x2)] (.int (0 : Int32))) :
    MetFree l (⟨"com/example/restless_reasoner/restlessreasoner/engine/tableau/Premises", "identity", "(I[I)[I"⟩ : MethodName) (head1 (Jvm.Cond.code (⟨"com/example/restless_reasoner/restlessreasoner/engine/tableau/Premises", "identity", "(I[I)[I"⟩ : MethodName) prog_45_method_6_code 3 (some (.array .int)) :: ws) ({ frames := 1, cells := 1, slots := 4, locals := 18 } : Room)) (fun a U => a = #[(.int p1), (.ref a2)] ∧ Z.Warmed39 U.vm ∧ U.heap = h0) (fun _ _ _ _ _ => True) (fun _ U o U' => ∃ v L, o = .returned v ∧ QI Z z p1 h0 n0 v U'.heap L ∧ FrameEnd U o U' L ({ frames := 1, cells := 1, slots := 4, locals := 18 } : Room).cells ({ frames := 1, cells := 1, slots := 4, locals := 18 } : Room).slots) := by
  rcases hz with rfl | rfl
  · exact rm2_2 l Z a0 hw ws p1 a2 k x0 x1 x2 h0 n0 Z0 V
  · exact rm2_3 l Z a0 hw ws p1 a2 k x0 x1 x2 h0 n0 Z0 V
theorem own_six (x : Int32) : (x &&& (2147483647 : Int32)) % (6 : Int32) = 0 ∨ (x &&& (2147483647 : Int32)) % (6 : Int32) = 1 ∨ (x &&& (2147483647 : Int32)) % (6 : Int32) = 2 ∨ (x &&& (2147483647 : Int32)) % (6 : Int32) = 3 ∨ (x &&& (2147483647 : Int32)) % (6 : Int32) = 4 ∨ (x &&& (2147483647 : Int32)) % (6 : Int32) = 5 := by
  have hm : (x &&& (2147483647 : Int32)).toInt = x.toInt % 2147483648 := c_mask x 2147483647 31 (by decide) (by decide)
  have hq := (c_irem (x &&& (2147483647 : Int32)) 6 6 (by decide)).1 (by omega)
  generalize (x &&& (2147483647 : Int32)) % (6 : Int32) = q at *
  have k0 : (0 : Int32).toInt = 0 := by decide
  have k1 : (1 : Int32).toInt = 1 := by decide
  have k2 : (2 : Int32).toInt = 2 := by decide
  have k3 : (3 : Int32).toInt = 3 := by decide
  have k4 : (4 : Int32).toInt = 4 := by decide
  have k5 : (5 : Int32).toInt = 5 := by decide
  simp only [← Int32.toInt_inj]
  omega
def own_sec (e b : Int32) : Int32 := if e = (0 : Int32) then (-3 : Int32) else if e = (1 : Int32) then (-2 : Int32) else b
theorem own_c0 {z w : Int32} (h : z < (3 : Int32)) : own_isne z w = (0 : Int32) := by unfold own_isne; rw [if_pos h]
theorem own_c1 {z w : Int32} (h : ¬ z < (3 : Int32)) (k : ¬ w = (-3 : Int32)) : own_isne z w = (0 : Int32) := by unfold own_isne; rw [if_neg h, if_neg k]
theorem own_c2 {z w : Int32} (h : ¬ z < (3 : Int32)) (k : w = (-3 : Int32)) : own_isne z w = (1 : Int32) := by unfold own_isne; rw [if_neg h, if_pos k]
theorem own_z3 {z : Int32} (h : z = (2 : Int32) ∨ z = (3 : Int32)) : ¬ z + 1 < (3 : Int32) := by rcases h with rfl | rfl <;> decide
set_option maxRecDepth 65536 in
set_option maxHeartbeats 40000000 in
theorem sgA_f {p : Program} {l : Launch} {e : Env} {s : State} {m : MethodId} {args : Array Value} {below : List Frame} {meth : Method} {c : Code} {T0 : State} {locs : List Loc} {Z : State} {a0 : Array Value} {h0 : Heap} {n0 : Nat} (i0 : Int32) (i1 : Int32) (i2 : Int32) (i3 : Int32) (i4 : Int32)
    (X0 : Stand p l e room_1 s m args below meth c T0 locs 0 0) (hx : p.tables.exec = Jvm.exec) (hZ : Z.Warmed39 s.vm) (hw : ∀ d ∈ tables_1, d.before a0 Z = true) (hby : c.code = code) (hml : c.maxLocals = 15) (hown : s.vm.findClass "com/example/restless_reasoner/restlessreasoner/engine/tableau/PremisesIsInequalityPinLaw" = some m.cls) (e0 : T0.heap = h0) (Z0 : n0 ≤ h0.size) (N0 : Fr n0 locs) (hnz6 : ¬ ((6 : Int32) = (0 : Int32))) (hc19 : (((i0.toUInt32 >>> ((8 : Int32) &&& 31).toUInt32).toInt32) &&& (3 : Int32)) = (0 : Int32)) :
    ∃ (T' : State) (h' : Heap) (locs' : List Loc), Stand p l e room_1 s m args below meth c T' locs' 0 0 ∧ T'.heap = h' ∧ Fr n0 locs' ∧ Keep h0 h' [] ∧
      ∀ target, Steps p.tables e below (T'.setTop (mkF m 41 #[.val (.int i0), .val (.int i1), .val (.int i2), .val (.int i3), .val (.int i4), .val (.int ((i0 &&& (2147483647 : Int32)) % (6 : Int32))), .val (.int (((i0.toUInt32 >>> ((8 : Int32) &&& 31).toUInt32).toInt32) &&& (3 : Int32))), .val (.int (-3 : Int32)), .unset, .unset, .unset, .unset, .unset, .unset, .unset] [])) target → Steps p.tables e below (T0.setTop (mkF m 0 #[.val (.int i0), .val (.int i1), .val (.int i2), .val (.int i3), .val (.int i4), .unset, .unset, .unset, .unset, .unset, .unset, .unset, .unset, .unset, .unset] [])) target := by

  refine ⟨T0, _, _, X0, e0, N0, (Keep.refl h0 []), fun target kt => ?_⟩
  show Steps p.tables e below (T0.setTop (mkF m 0 #[.val (.int i0), .val (.int i1), .val (.int i2), .val (.int i3), .val (.int i4), .unset, .unset, .unset, .unset, .unset, .unset, .unset, .unset, .unset, .unset] [])) _
  refine XS.iloadN X0.here hx rfl (hb hby at_0) rfl ?_
  show Steps p.tables e below (T0.setTop (mkF m 1 #[.val (.int i0), .val (.int i1), .val (.int i2), .val (.int i3), .val (.int i4), .unset, .unset, .unset, .unset, .unset, .unset, .unset, .unset, .unset, .unset] [(.int i0)])) _
  refine X0.ldcInt hx hown (mvT hZ (hw _ (List.mem_of_getElem? (i := 0) rfl))) (g := (mkF m 1 #[.val (.int i0), .val (.int i1), .val (.int i2), .val (.int i3), .val (.int i4), .unset, .unset, .unset, .unset, .unset, .unset, .unset, .unset, .unset, .unset] [(.int i0)])) rfl (hb hby at_1) _ ?_
  show Steps p.tables e below (T0.setTop (mkF m 3 #[.val (.int i0), .val (.int i1), .val (.int i2), .val (.int i3), .val (.int i4), .unset, .unset, .unset, .unset, .unset, .unset, .unset, .unset, .unset, .unset] [(.int (2147483647 : Int32)), (.int i0)])) _
  refine XS.iand X0.here hx rfl (hb hby at_3) rfl ?_
  show Steps p.tables e below (T0.setTop (mkF m 4 #[.val (.int i0), .val (.int i1), .val (.int i2), .val (.int i3), .val (.int i4), .unset, .unset, .unset, .unset, .unset, .unset, .unset, .unset, .unset, .unset] [(.int (i0 &&& (2147483647 : Int32)))])) _
  refine XS.bipush X0.here hx rfl (hb hby at_4) ?_
  show Steps p.tables e below (T0.setTop (mkF m 6 #[.val (.int i0), .val (.int i1), .val (.int i2), .val (.int i3), .val (.int i4), .unset, .unset, .unset, .unset, .unset, .unset, .unset, .unset, .unset, .unset] [(.int (6 : Int32)), (.int (i0 &&& (2147483647 : Int32)))])) _
  refine iremM X0 hx rfl (hb hby at_6) rfl hnz6 ?_
  show Steps p.tables e below (T0.setTop (mkF m 7 #[.val (.int i0), .val (.int i1), .val (.int i2), .val (.int i3), .val (.int i4), .unset, .unset, .unset, .unset, .unset, .unset, .unset, .unset, .unset, .unset] [(.int ((i0 &&& (2147483647 : Int32)) % (6 : Int32)))])) _
  refine XS.istore X0.here hx rfl (hb hby at_7) rfl (l' := #[.val (.int i0), .val (.int i1), .val (.int i2), .val (.int i3), .val (.int i4), .val (.int ((i0 &&& (2147483647 : Int32)) % (6 : Int32))), .unset, .unset, .unset, .unset, .unset, .unset, .unset, .unset, .unset]) rfl ?_
  show Steps p.tables e below (T0.setTop (mkF m 9 #[.val (.int i0), .val (.int i1), .val (.int i2), .val (.int i3), .val (.int i4), .val (.int ((i0 &&& (2147483647 : Int32)) % (6 : Int32))), .unset, .unset, .unset, .unset, .unset, .unset, .unset, .unset, .unset] [])) _
  refine XS.iloadN X0.here hx rfl (hb hby at_9) rfl ?_
  show Steps p.tables e below (T0.setTop (mkF m 10 #[.val (.int i0), .val (.int i1), .val (.int i2), .val (.int i3), .val (.int i4), .val (.int ((i0 &&& (2147483647 : Int32)) % (6 : Int32))), .unset, .unset, .unset, .unset, .unset, .unset, .unset, .unset, .unset] [(.int i0)])) _
  refine XS.bipush X0.here hx rfl (hb hby at_10) ?_
  show Steps p.tables e below (T0.setTop (mkF m 12 #[.val (.int i0), .val (.int i1), .val (.int i2), .val (.int i3), .val (.int i4), .val (.int ((i0 &&& (2147483647 : Int32)) % (6 : Int32))), .unset, .unset, .unset, .unset, .unset, .unset, .unset, .unset, .unset] [(.int (8 : Int32)), (.int i0)])) _
  refine XS.iushr X0.here hx rfl (hb hby at_12) rfl ?_
  show Steps p.tables e below (T0.setTop (mkF m 13 #[.val (.int i0), .val (.int i1), .val (.int i2), .val (.int i3), .val (.int i4), .val (.int ((i0 &&& (2147483647 : Int32)) % (6 : Int32))), .unset, .unset, .unset, .unset, .unset, .unset, .unset, .unset, .unset] [(.int ((i0.toUInt32 >>> ((8 : Int32) &&& 31).toUInt32).toInt32))])) _
  refine XS.iconst X0.here hx rfl (hb hby at_13) ?_
  show Steps p.tables e below (T0.setTop (mkF m 14 #[.val (.int i0), .val (.int i1), .val (.int i2), .val (.int i3), .val (.int i4), .val (.int ((i0 &&& (2147483647 : Int32)) % (6 : Int32))), .unset, .unset, .unset, .unset, .unset, .unset, .unset, .unset, .unset] [(.int (3 : Int32)), (.int ((i0.toUInt32 >>> ((8 : Int32) &&& 31).toUInt32).toInt32))])) _
  refine XS.iand X0.here hx rfl (hb hby at_14) rfl ?_
  show Steps p.tables e below (T0.setTop (mkF m 15 #[.val (.int i0), .val (.int i1), .val (.int i2), .val (.int i3), .val (.int i4), .val (.int ((i0 &&& (2147483647 : Int32)) % (6 : Int32))), .unset, .unset, .unset, .unset, .unset, .unset, .unset, .unset, .unset] [(.int (((i0.toUInt32 >>> ((8 : Int32) &&& 31).toUInt32).toInt32) &&& (3 : Int32)))])) _
  refine XS.istore X0.here hx rfl (hb hby at_15) rfl (l' := #[.val (.int i0), .val (.int i1), .val (.int i2), .val (.int i3), .val (.int i4), .val (.int ((i0 &&& (2147483647 : Int32)) % (6 : Int32))), .val (.int (((i0.toUInt32 >>> ((8 : Int32) &&& 31).toUInt32).toInt32) &&& (3 : Int32))), .unset, .unset, .unset, .unset, .unset, .unset, .unset, .unset]) rfl ?_
  show Steps p.tables e below (T0.setTop (mkF m 17 #[.val (.int i0), .val (.int i1), .val (.int i2), .val (.int i3), .val (.int i4), .val (.int ((i0 &&& (2147483647 : Int32)) % (6 : Int32))), .val (.int (((i0.toUInt32 >>> ((8 : Int32) &&& 31).toUInt32).toInt32) &&& (3 : Int32))), .unset, .unset, .unset, .unset, .unset, .unset, .unset, .unset] [])) _
  refine XS.iload X0.here hx rfl (hb hby at_17) rfl ?_
  show Steps p.tables e below (T0.setTop (mkF m 19 #[.val (.int i0), .val (.int i1), .val (.int i2), .val (.int i3), .val (.int i4), .val (.int ((i0 &&& (2147483647 : Int32)) % (6 : Int32))), .val (.int (((i0.toUInt32 >>> ((8 : Int32) &&& 31).toUInt32).toInt32) &&& (3 : Int32))), .unset, .unset, .unset, .unset, .unset, .unset, .unset, .unset] [(.int (((i0.toUInt32 >>> ((8 : Int32) &&& 31).toUInt32).toInt32) &&& (3 : Int32)))])) _
  refine XS.ifNo X0.here hx rfl (hb hby at_19) rfl ((if0 _ _).trans (teq hc19).2) ?_
  show Steps p.tables e below (T0.setTop (mkF m 22 #[.val (.int i0), .val (.int i1), .val (.int i2), .val (.int i3), .val (.int i4), .val (.int ((i0 &&& (2147483647 : Int32)) % (6 : Int32))), .val (.int (((i0.toUInt32 >>> ((8 : Int32) &&& 31).toUInt32).toInt32) &&& (3 : Int32))), .unset, .unset, .unset, .unset, .unset, .unset, .unset, .unset] [])) _
  refine XS.bipush X0.here hx rfl (hb hby at_22) ?_
  show Steps p.tables e below (T0.setTop (mkF m 24 #[.val (.int i0), .val (.int i1), .val (.int i2), .val (.int i3), .val (.int i4), .val (.int ((i0 &&& (2147483647 : Int32)) % (6 : Int32))), .val (.int (((i0.toUInt32 >>> ((8 : Int32) &&& 31).toUInt32).toInt32) &&& (3 : Int32))), .unset, .unset, .unset, .unset, .unset, .unset, .unset, .unset] [(.int (-3 : Int32))])) _
  refine XS.goto X0.here hx rfl (pc0 := 24) (pc' := 39) rfl (hb hby at_24) (by decide) (by decide) ?_
  show Steps p.tables e below (T0.setTop (mkF m 39 #[.val (.int i0), .val (.int i1), .val (.int i2), .val (.int i3), .val (.int i4), .val (.int ((i0 &&& (2147483647 : Int32)) % (6 : Int32))), .val (.int (((i0.toUInt32 >>> ((8 : Int32) &&& 31).toUInt32).toInt32) &&& (3 : Int32))), .unset, .unset, .unset, .unset, .unset, .unset, .unset, .unset] [(.int (-3 : Int32))])) _
  refine XS.istore X0.here hx rfl (hb hby at_39) rfl (l' := #[.val (.int i0), .val (.int i1), .val (.int i2), .val (.int i3), .val (.int i4), .val (.int ((i0 &&& (2147483647 : Int32)) % (6 : Int32))), .val (.int (((i0.toUInt32 >>> ((8 : Int32) &&& 31).toUInt32).toInt32) &&& (3 : Int32))), .val (.int (-3 : Int32)), .unset, .unset, .unset, .unset, .unset, .unset, .unset]) rfl ?_
  exact kt
set_option maxRecDepth 65536 in
set_option maxHeartbeats 40000000 in
theorem sgA_tf {p : Program} {l : Launch} {e : Env} {s : State} {m : MethodId} {args : Array Value} {below : List Frame} {meth : Method} {c : Code} {T0 : State} {locs : List Loc} {Z : State} {a0 : Array Value} {h0 : Heap} {n0 : Nat} (i0 : Int32) (i1 : Int32) (i2 : Int32) (i3 : Int32) (i4 : Int32)
    (X0 : Stand p l e room_1 s m args below meth c T0 locs 0 0) (hx : p.tables.exec = Jvm.exec) (hZ : Z.Warmed39 s.vm) (hw : ∀ d ∈ tables_1, d.before a0 Z = true) (hby : c.code = code) (hml : c.maxLocals = 15) (hown : s.vm.findClass "com/example/restless_reasoner/restlessreasoner/engine/tableau/PremisesIsInequalityPinLaw" = some m.cls) (e0 : T0.heap = h0) (Z0 : n0 ≤ h0.size) (N0 : Fr n0 locs) (hnz6 : ¬ ((6 : Int32) = (0 : Int32))) (hc19 : ¬ ((((i0.toUInt32 >>> ((8 : Int32) &&& 31).toUInt32).toInt32) &&& (3 : Int32)) = (0 : Int32))) (hc30 : (((i0.toUInt32 >>> ((8 : Int32) &&& 31).toUInt32).toInt32) &&& (3 : Int32)) = (1 : Int32)) :
    ∃ (T' : State) (h' : Heap) (locs' : List Loc), Stand p l e room_1 s m args below meth c T' locs' 0 0 ∧ T'.heap = h' ∧ Fr n0 locs' ∧ Keep h0 h' [] ∧
      ∀ target, Steps p.tables e below (T'.setTop (mkF m 41 #[.val (.int i0), .val (.int i1), .val (.int i2), .val (.int i3), .val (.int i4), .val (.int ((i0 &&& (2147483647 : Int32)) % (6 : Int32))), .val (.int (((i0.toUInt32 >>> ((8 : Int32) &&& 31).toUInt32).toInt32) &&& (3 : Int32))), .val (.int (-2 : Int32)), .unset, .unset, .unset, .unset, .unset, .unset, .unset] [])) target → Steps p.tables e below (T0.setTop (mkF m 0 #[.val (.int i0), .val (.int i1), .val (.int i2), .val (.int i3), .val (.int i4), .unset, .unset, .unset, .unset, .unset, .unset, .unset, .unset, .unset, .unset] [])) target := by

  refine ⟨T0, _, _, X0, e0, N0, (Keep.refl h0 []), fun target kt => ?_⟩
  show Steps p.tables e below (T0.setTop (mkF m 0 #[.val (.int i0), .val (.int i1), .val (.int i2), .val (.int i3), .val (.int i4), .unset, .unset, .unset, .unset, .unset, .unset, .unset, .unset, .unset, .unset] [])) _
  refine XS.iloadN X0.here hx rfl (hb hby at_0) rfl ?_
  show Steps p.tables e below (T0.setTop (mkF m 1 #[.val (.int i0), .val (.int i1), .val (.int i2), .val (.int i3), .val (.int i4), .unset, .unset, .unset, .unset, .unset, .unset, .unset, .unset, .unset, .unset] [(.int i0)])) _
  refine X0.ldcInt hx hown (mvT hZ (hw _ (List.mem_of_getElem? (i := 0) rfl))) (g := (mkF m 1 #[.val (.int i0), .val (.int i1), .val (.int i2), .val (.int i3), .val (.int i4), .unset, .unset, .unset, .unset, .unset, .unset, .unset, .unset, .unset, .unset] [(.int i0)])) rfl (hb hby at_1) _ ?_
  show Steps p.tables e below (T0.setTop (mkF m 3 #[.val (.int i0), .val (.int i1), .val (.int i2), .val (.int i3), .val (.int i4), .unset, .unset, .unset, .unset, .unset, .unset, .unset, .unset, .unset, .unset] [(.int (2147483647 : Int32)), (.int i0)])) _
  refine XS.iand X0.here hx rfl (hb hby at_3) rfl ?_
  show Steps p.tables e below (T0.setTop (mkF m 4 #[.val (.int i0), .val (.int i1), .val (.int i2), .val (.int i3), .val (.int i4), .unset, .unset, .unset, .unset, .unset, .unset, .unset, .unset, .unset, .unset] [(.int (i0 &&& (2147483647 : Int32)))])) _
  refine XS.bipush X0.here hx rfl (hb hby at_4) ?_
  show Steps p.tables e below (T0.setTop (mkF m 6 #[.val (.int i0), .val (.int i1), .val (.int i2), .val (.int i3), .val (.int i4), .unset, .unset, .unset, .unset, .unset, .unset, .unset, .unset, .unset, .unset] [(.int (6 : Int32)), (.int (i0 &&& (2147483647 : Int32)))])) _
  refine iremM X0 hx rfl (hb hby at_6) rfl hnz6 ?_
  show Steps p.tables e below (T0.setTop (mkF m 7 #[.val (.int i0), .val (.int i1), .val (.int i2), .val (.int i3), .val (.int i4), .unset, .unset, .unset, .unset, .unset, .unset, .unset, .unset, .unset, .unset] [(.int ((i0 &&& (2147483647 : Int32)) % (6 : Int32)))])) _
  refine XS.istore X0.here hx rfl (hb hby at_7) rfl (l' := #[.val (.int i0), .val (.int i1), .val (.int i2), .val (.int i3), .val (.int i4), .val (.int ((i0 &&& (2147483647 : Int32)) % (6 : Int32))), .unset, .unset, .unset, .unset, .unset, .unset, .unset, .unset, .unset]) rfl ?_
  show Steps p.tables e below (T0.setTop (mkF m 9 #[.val (.int i0), .val (.int i1), .val (.int i2), .val (.int i3), .val (.int i4), .val (.int ((i0 &&& (2147483647 : Int32)) % (6 : Int32))), .unset, .unset, .unset, .unset, .unset, .unset, .unset, .unset, .unset] [])) _
  refine XS.iloadN X0.here hx rfl (hb hby at_9) rfl ?_
  show Steps p.tables e below (T0.setTop (mkF m 10 #[.val (.int i0), .val (.int i1), .val (.int i2), .val (.int i3), .val (.int i4), .val (.int ((i0 &&& (2147483647 : Int32)) % (6 : Int32))), .unset, .unset, .unset, .unset, .unset, .unset, .unset, .unset, .unset] [(.int i0)])) _
  refine XS.bipush X0.here hx rfl (hb hby at_10) ?_
  show Steps p.tables e below (T0.setTop (mkF m 12 #[.val (.int i0), .val (.int i1), .val (.int i2), .val (.int i3), .val (.int i4), .val (.int ((i0 &&& (2147483647 : Int32)) % (6 : Int32))), .unset, .unset, .unset, .unset, .unset, .unset, .unset, .unset, .unset] [(.int (8 : Int32)), (.int i0)])) _
  refine XS.iushr X0.here hx rfl (hb hby at_12) rfl ?_
  show Steps p.tables e below (T0.setTop (mkF m 13 #[.val (.int i0), .val (.int i1), .val (.int i2), .val (.int i3), .val (.int i4), .val (.int ((i0 &&& (2147483647 : Int32)) % (6 : Int32))), .unset, .unset, .unset, .unset, .unset, .unset, .unset, .unset, .unset] [(.int ((i0.toUInt32 >>> ((8 : Int32) &&& 31).toUInt32).toInt32))])) _
  refine XS.iconst X0.here hx rfl (hb hby at_13) ?_
  show Steps p.tables e below (T0.setTop (mkF m 14 #[.val (.int i0), .val (.int i1), .val (.int i2), .val (.int i3), .val (.int i4), .val (.int ((i0 &&& (2147483647 : Int32)) % (6 : Int32))), .unset, .unset, .unset, .unset, .unset, .unset, .unset, .unset, .unset] [(.int (3 : Int32)), (.int ((i0.toUInt32 >>> ((8 : Int32) &&& 31).toUInt32).toInt32))])) _
  refine XS.iand X0.here hx rfl (hb hby at_14) rfl ?_
  show Steps p.tables e below (T0.setTop (mkF m 15 #[.val (.int i0), .val (.int i1), .val (.int i2), .val (.int i3), .val (.int i4), .val (.int ((i0 &&& (2147483647 : Int32)) % (6 : Int32))), .unset, .unset, .unset, .unset, .unset, .unset, .unset, .unset, .unset] [(.int (((i0.toUInt32 >>> ((8 : Int32) &&& 31).toUInt32).toInt32) &&& (3 : Int32)))])) _
  refine XS.istore X0.here hx rfl (hb hby at_15) rfl (l' := #[.val (.int i0), .val (.int i1), .val (.int i2), .val (.int i3), .val (.int i4), .val (.int ((i0 &&& (2147483647 : Int32)) % (6 : Int32))), .val (.int (((i0.toUInt32 >>> ((8 : Int32) &&& 31).toUInt32).toInt32) &&& (3 : Int32))), .unset, .unset, .unset, .unset, .unset, .unset, .unset, .unset]) rfl ?_
  show Steps p.tables e below (T0.setTop (mkF m 17 #[.val (.int i0), .val (.int i1), .val (.int i2), .val (.int i3), .val (.int i4), .val (.int ((i0 &&& (2147483647 : Int32)) % (6 : Int32))), .val (.int (((i0.toUInt32 >>> ((8 : Int32) &&& 31).toUInt32).toInt32) &&& (3 : Int32))), .unset, .unset, .unset, .unset, .unset, .unset, .unset, .unset] [])) _
  refine XS.iload X0.here hx rfl (hb hby at_17) rfl ?_
  show Steps p.tables e below (T0.setTop (mkF m 19 #[.val (.int i0), .val (.int i1), .val (.int i2), .val (.int i3), .val (.int i4), .val (.int ((i0 &&& (2147483647 : Int32)) % (6 : Int32))), .val (.int (((i0.toUInt32 >>> ((8 : Int32) &&& 31).toUInt32).toInt32) &&& (3 : Int32))), .unset, .unset, .unset, .unset, .unset, .unset, .unset, .unset] [(.int (((i0.toUInt32 >>> ((8 : Int32) &&& 31).toUInt32).toInt32) &&& (3 : Int32)))])) _
  refine XS.ifYes X0.here hx rfl (pc0 := 19) (pc' := 27) rfl (hb hby at_19) rfl ((if0 _ _).trans (feq hc19).2) (by decide) (by decide) ?_
  show Steps p.tables e below (T0.setTop (mkF m 27 #[.val (.int i0), .val (.int i1), .val (.int i2), .val (.int i3), .val (.int i4), .val (.int ((i0 &&& (2147483647 : Int32)) % (6 : Int32))), .val (.int (((i0.toUInt32 >>> ((8 : Int32) &&& 31).toUInt32).toInt32) &&& (3 : Int32))), .unset, .unset, .unset, .unset, .unset, .unset, .unset, .unset] [])) _
  refine XS.iload X0.here hx rfl (hb hby at_27) rfl ?_
  show Steps p.tables e below (T0.setTop (mkF m 29 #[.val (.int i0), .val (.int i1), .val (.int i2), .val (.int i3), .val (.int i4), .val (.int ((i0 &&& (2147483647 : Int32)) % (6 : Int32))), .val (.int (((i0.toUInt32 >>> ((8 : Int32) &&& 31).toUInt32).toInt32) &&& (3 : Int32))), .unset, .unset, .unset, .unset, .unset, .unset, .unset, .unset] [(.int (((i0.toUInt32 >>> ((8 : Int32) &&& 31).toUInt32).toInt32) &&& (3 : Int32)))])) _
  refine XS.iconst X0.here hx rfl (hb hby at_29) ?_
  show Steps p.tables e below (T0.setTop (mkF m 30 #[.val (.int i0), .val (.int i1), .val (.int i2), .val (.int i3), .val (.int i4), .val (.int ((i0 &&& (2147483647 : Int32)) % (6 : Int32))), .val (.int (((i0.toUInt32 >>> ((8 : Int32) &&& 31).toUInt32).toInt32) &&& (3 : Int32))), .unset, .unset, .unset, .unset, .unset, .unset, .unset, .unset] [(.int (1 : Int32)), (.int (((i0.toUInt32 >>> ((8 : Int32) &&& 31).toUInt32).toInt32) &&& (3 : Int32)))])) _
  refine XS.icmpNo X0.here hx rfl (hb hby at_30) rfl (teq hc30).2 ?_
  show Steps p.tables e below (T0.setTop (mkF m 33 #[.val (.int i0), .val (.int i1), .val (.int i2), .val (.int i3), .val (.int i4), .val (.int ((i0 &&& (2147483647 : Int32)) % (6 : Int32))), .val (.int (((i0.toUInt32 >>> ((8 : Int32) &&& 31).toUInt32).toInt32) &&& (3 : Int32))), .unset, .unset, .unset, .unset, .unset, .unset, .unset, .unset] [])) _
  refine XS.bipush X0.here hx rfl (hb hby at_33) ?_
  show Steps p.tables e below (T0.setTop (mkF m 35 #[.val (.int i0), .val (.int i1), .val (.int i2), .val (.int i3), .val (.int i4), .val (.int ((i0 &&& (2147483647 : Int32)) % (6 : Int32))), .val (.int (((i0.toUInt32 >>> ((8 : Int32) &&& 31).toUInt32).toInt32) &&& (3 : Int32))), .unset, .unset, .unset, .unset, .unset, .unset, .unset, .unset] [(.int (-2 : Int32))])) _
  refine XS.goto X0.here hx rfl (pc0 := 35) (pc' := 39) rfl (hb hby at_35) (by decide) (by decide) ?_
  show Steps p.tables e below (T0.setTop (mkF m 39 #[.val (.int i0), .val (.int i1), .val (.int i2), .val (.int i3), .val (.int i4), .val (.int ((i0 &&& (2147483647 : Int32)) % (6 : Int32))), .val (.int (((i0.toUInt32 >>> ((8 : Int32) &&& 31).toUInt32).toInt32) &&& (3 : Int32))), .unset, .unset, .unset, .unset, .unset, .unset, .unset, .unset] [(.int (-2 : Int32))])) _
  refine XS.istore X0.here hx rfl (hb hby at_39) rfl (l' := #[.val (.int i0), .val (.int i1), .val (.int i2), .val (.int i3), .val (.int i4), .val (.int ((i0 &&& (2147483647 : Int32)) % (6 : Int32))), .val (.int (((i0.toUInt32 >>> ((8 : Int32) &&& 31).toUInt32).toInt32) &&& (3 : Int32))), .val (.int (-2 : Int32)), .unset, .unset, .unset, .unset, .unset, .unset, .unset]) rfl ?_
  exact kt
set_option maxRecDepth 65536 in
set_option maxHeartbeats 40000000 in
theorem sgA_tt {p : Program} {l : Launch} {e : Env} {s : State} {m : MethodId} {args : Array Value} {below : List Frame} {meth : Method} {c : Code} {T0 : State} {locs : List Loc} {Z : State} {a0 : Array Value} {h0 : Heap} {n0 : Nat} (i0 : Int32) (i1 : Int32) (i2 : Int32) (i3 : Int32) (i4 : Int32)
    (X0 : Stand p l e room_1 s m args below meth c T0 locs 0 0) (hx : p.tables.exec = Jvm.exec) (hZ : Z.Warmed39 s.vm) (hw : ∀ d ∈ tables_1, d.before a0 Z = true) (hby : c.code = code) (hml : c.maxLocals = 15) (hown : s.vm.findClass "com/example/restless_reasoner/restlessreasoner/engine/tableau/PremisesIsInequalityPinLaw" = some m.cls) (e0 : T0.heap = h0) (Z0 : n0 ≤ h0.size) (N0 : Fr n0 locs) (hnz6 : ¬ ((6 : Int32) = (0 : Int32))) (hc19 : ¬ ((((i0.toUInt32 >>> ((8 : Int32) &&& 31).toUInt32).toInt32) &&& (3 : Int32)) = (0 : Int32))) (hc30 : ¬ ((((i0.toUInt32 >>> ((8 : Int32) &&& 31).toUInt32).toInt32) &&& (3 : Int32)) = (1 : Int32))) :
    ∃ (T' : State) (h' : Heap) (locs' : List Loc), Stand p l e room_1 s m args below meth c T' locs' 0 0 ∧ T'.heap = h' ∧ Fr n0 locs' ∧ Keep h0 h' [] ∧
      ∀ target, Steps p.tables e below (T'.setTop (mkF m 41 #[.val (.int i0), .val (.int i1), .val (.int i2), .val (.int i3), .val (.int i4), .val (.int ((i0 &&& (2147483647 : Int32)) % (6 : Int32))), .val (.int (((i0.toUInt32 >>> ((8 : Int32) &&& 31).toUInt32).toInt32) &&& (3 : Int32))), .val (.int i2), .unset, .unset, .unset, .unset, .unset, .unset, .unset] [])) target → Steps p.tables e below (T0.setTop (mkF m 0 #[.val (.int i0), .val (.int i1), .val (.int i2), .val (.int i3), .val (.int i4), .unset, .unset, .unset, .unset, .unset, .unset, .unset, .unset, .unset, .unset] [])) target := by

  refine ⟨T0, _, _, X0, e0, N0, (Keep.refl h0 []), fun target kt => ?_⟩
  show Steps p.tables e below (T0.setTop (mkF m 0 #[.val (.int i0), .val (.int i1), .val (.int i2), .val (.int i3), .val (.int i4), .unset, .unset, .unset, .unset, .unset, .unset, .unset, .unset, .unset, .unset] [])) _
  refine XS.iloadN X0.here hx rfl (hb hby at_0) rfl ?_
  show Steps p.tables e below (T0.setTop (mkF m 1 #[.val (.int i0), .val (.int i1), .val (.int i2), .val (.int i3), .val (.int i4), .unset, .unset, .unset, .unset, .unset, .unset, .unset, .unset, .unset, .unset] [(.int i0)])) _
  refine X0.ldcInt hx hown (mvT hZ (hw _ (List.mem_of_getElem? (i := 0) rfl))) (g := (mkF m 1 #[.val (.int i0), .val (.int i1), .val (.int i2), .val (.int i3), .val (.int i4), .unset, .unset, .unset, .unset, .unset, .unset, .unset, .unset, .unset, .unset] [(.int i0)])) rfl (hb hby at_1) _ ?_
  show Steps p.tables e below (T0.setTop (mkF m 3 #[.val (.int i0), .val (.int i1), .val (.int i2), .val (.int i3), .val (.int i4), .unset, .unset, .unset, .unset, .unset, .unset, .unset, .unset, .unset, .unset] [(.int (2147483647 : Int32)), (.int i0)])) _
  refine XS.iand X0.here hx rfl (hb hby at_3) rfl ?_
  show Steps p.tables e below (T0.setTop (mkF m 4 #[.val (.int i0), .val (.int i1), .val (.int i2), .val (.int i3), .val (.int i4), .unset, .unset, .unset, .unset, .unset, .unset, .unset, .unset, .unset, .unset] [(.int (i0 &&& (2147483647 : Int32)))])) _
  refine XS.bipush X0.here hx rfl (hb hby at_4) ?_
  show Steps p.tables e below (T0.setTop (mkF m 6 #[.val (.int i0), .val (.int i1), .val (.int i2), .val (.int i3), .val (.int i4), .unset, .unset, .unset, .unset, .unset, .unset, .unset, .unset, .unset, .unset] [(.int (6 : Int32)), (.int (i0 &&& (2147483647 : Int32)))])) _
  refine iremM X0 hx rfl (hb hby at_6) rfl hnz6 ?_
  show Steps p.tables e below (T0.setTop (mkF m 7 #[.val (.int i0), .val (.int i1), .val (.int i2), .val (.int i3), .val (.int i4), .unset, .unset, .unset, .unset, .unset, .unset, .unset, .unset, .unset, .unset] [(.int ((i0 &&& (2147483647 : Int32)) % (6 : Int32)))])) _
  refine XS.istore X0.here hx rfl (hb hby at_7) rfl (l' := #[.val (.int i0), .val (.int i1), .val (.int i2), .val (.int i3), .val (.int i4), .val (.int ((i0 &&& (2147483647 : Int32)) % (6 : Int32))), .unset, .unset, .unset, .unset, .unset, .unset, .unset, .unset, .unset]) rfl ?_
  show Steps p.tables e below (T0.setTop (mkF m 9 #[.val (.int i0), .val (.int i1), .val (.int i2), .val (.int i3), .val (.int i4), .val (.int ((i0 &&& (2147483647 : Int32)) % (6 : Int32))), .unset, .unset, .unset, .unset, .unset, .unset, .unset, .unset, .unset] [])) _
  refine XS.iloadN X0.here hx rfl (hb hby at_9) rfl ?_
  show Steps p.tables e below (T0.setTop (mkF m 10 #[.val (.int i0), .val (.int i1), .val (.int i2), .val (.int i3), .val (.int i4), .val (.int ((i0 &&& (2147483647 : Int32)) % (6 : Int32))), .unset, .unset, .unset, .unset, .unset, .unset, .unset, .unset, .unset] [(.int i0)])) _
  refine XS.bipush X0.here hx rfl (hb hby at_10) ?_
  show Steps p.tables e below (T0.setTop (mkF m 12 #[.val (.int i0), .val (.int i1), .val (.int i2), .val (.int i3), .val (.int i4), .val (.int ((i0 &&& (2147483647 : Int32)) % (6 : Int32))), .unset, .unset, .unset, .unset, .unset, .unset, .unset, .unset, .unset] [(.int (8 : Int32)), (.int i0)])) _
  refine XS.iushr X0.here hx rfl (hb hby at_12) rfl ?_
  show Steps p.tables e below (T0.setTop (mkF m 13 #[.val (.int i0), .val (.int i1), .val (.int i2), .val (.int i3), .val (.int i4), .val (.int ((i0 &&& (2147483647 : Int32)) % (6 : Int32))), .unset, .unset, .unset, .unset, .unset, .unset, .unset, .unset, .unset] [(.int ((i0.toUInt32 >>> ((8 : Int32) &&& 31).toUInt32).toInt32))])) _
  refine XS.iconst X0.here hx rfl (hb hby at_13) ?_
  show Steps p.tables e below (T0.setTop (mkF m 14 #[.val (.int i0), .val (.int i1), .val (.int i2), .val (.int i3), .val (.int i4), .val (.int ((i0 &&& (2147483647 : Int32)) % (6 : Int32))), .unset, .unset, .unset, .unset, .unset, .unset, .unset, .unset, .unset] [(.int (3 : Int32)), (.int ((i0.toUInt32 >>> ((8 : Int32) &&& 31).toUInt32).toInt32))])) _
  refine XS.iand X0.here hx rfl (hb hby at_14) rfl ?_
  show Steps p.tables e below (T0.setTop (mkF m 15 #[.val (.int i0), .val (.int i1), .val (.int i2), .val (.int i3), .val (.int i4), .val (.int ((i0 &&& (2147483647 : Int32)) % (6 : Int32))), .unset, .unset, .unset, .unset, .unset, .unset, .unset, .unset, .unset] [(.int (((i0.toUInt32 >>> ((8 : Int32) &&& 31).toUInt32).toInt32) &&& (3 : Int32)))])) _
  refine XS.istore X0.here hx rfl (hb hby at_15) rfl (l' := #[.val (.int i0), .val (.int i1), .val (.int i2), .val (.int i3), .val (.int i4), .val (.int ((i0 &&& (2147483647 : Int32)) % (6 : Int32))), .val (.int (((i0.toUInt32 >>> ((8 : Int32) &&& 31).toUInt32).toInt32) &&& (3 : Int32))), .unset, .unset, .unset, .unset, .unset, .unset, .unset, .unset]) rfl ?_
  show Steps p.tables e below (T0.setTop (mkF m 17 #[.val (.int i0), .val (.int i1), .val (.int i2), .val (.int i3), .val (.int i4), .val (.int ((i0 &&& (2147483647 : Int32)) % (6 : Int32))), .val (.int (((i0.toUInt32 >>> ((8 : Int32) &&& 31).toUInt32).toInt32) &&& (3 : Int32))), .unset, .unset, .unset, .unset, .unset, .unset, .unset, .unset] [])) _
  refine XS.iload X0.here hx rfl (hb hby at_17) rfl ?_
  show Steps p.tables e below (T0.setTop (mkF m 19 #[.val (.int i0), .val (.int i1), .val (.int i2), .val (.int i3), .val (.int i4), .val (.int ((i0 &&& (2147483647 : Int32)) % (6 : Int32))), .val (.int (((i0.toUInt32 >>> ((8 : Int32) &&& 31).toUInt32).toInt32) &&& (3 : Int32))), .unset, .unset, .unset, .unset, .unset, .unset, .unset, .unset] [(.int (((i0.toUInt32 >>> ((8 : Int32) &&& 31).toUInt32).toInt32) &&& (3 : Int32)))])) _
  refine XS.ifYes X0.here hx rfl (pc0 := 19) (pc' := 27) rfl (hb hby at_19) rfl ((if0 _ _).trans (feq hc19).2) (by decide) (by decide) ?_
  show Steps p.tables e below (T0.setTop (mkF m 27 #[.val (.int i0), .val (.int i1), .val (.int i2), .val (.int i3), .val (.int i4), .val (.int ((i0 &&& (2147483647 : Int32)) % (6 : Int32))), .val (.int (((i0.toUInt32 >>> ((8 : Int32) &&& 31).toUInt32).toInt32) &&& (3 : Int32))), .unset, .unset, .unset, .unset, .unset, .unset, .unset, .unset] [])) _
  refine XS.iload X0.here hx rfl (hb hby at_27) rfl ?_
  show Steps p.tables e below (T0.setTop (mkF m 29 #[.val (.int i0), .val (.int i1), .val (.int i2), .val (.int i3), .val (.int i4), .val (.int ((i0 &&& (2147483647 : Int32)) % (6 : Int32))), .val (.int (((i0.toUInt32 >>> ((8 : Int32) &&& 31).toUInt32).toInt32) &&& (3 : Int32))), .unset, .unset, .unset, .unset, .unset, .unset, .unset, .unset] [(.int (((i0.toUInt32 >>> ((8 : Int32) &&& 31).toUInt32).toInt32) &&& (3 : Int32)))])) _
  refine XS.iconst X0.here hx rfl (hb hby at_29) ?_
  show Steps p.tables e below (T0.setTop (mkF m 30 #[.val (.int i0), .val (.int i1), .val (.int i2), .val (.int i3), .val (.int i4), .val (.int ((i0 &&& (2147483647 : Int32)) % (6 : Int32))), .val (.int (((i0.toUInt32 >>> ((8 : Int32) &&& 31).toUInt32).toInt32) &&& (3 : Int32))), .unset, .unset, .unset, .unset, .unset, .unset, .unset, .unset] [(.int (1 : Int32)), (.int (((i0.toUInt32 >>> ((8 : Int32) &&& 31).toUInt32).toInt32) &&& (3 : Int32)))])) _
  refine XS.icmpYes X0.here hx rfl (pc0 := 30) (pc' := 38) rfl (hb hby at_30) rfl (feq hc30).2 (by decide) (by decide) ?_
  show Steps p.tables e below (T0.setTop (mkF m 38 #[.val (.int i0), .val (.int i1), .val (.int i2), .val (.int i3), .val (.int i4), .val (.int ((i0 &&& (2147483647 : Int32)) % (6 : Int32))), .val (.int (((i0.toUInt32 >>> ((8 : Int32) &&& 31).toUInt32).toInt32) &&& (3 : Int32))), .unset, .unset, .unset, .unset, .unset, .unset, .unset, .unset] [])) _
  refine XS.iloadN X0.here hx rfl (hb hby at_38) rfl ?_
  show Steps p.tables e below (T0.setTop (mkF m 39 #[.val (.int i0), .val (.int i1), .val (.int i2), .val (.int i3), .val (.int i4), .val (.int ((i0 &&& (2147483647 : Int32)) % (6 : Int32))), .val (.int (((i0.toUInt32 >>> ((8 : Int32) &&& 31).toUInt32).toInt32) &&& (3 : Int32))), .unset, .unset, .unset, .unset, .unset, .unset, .unset, .unset] [(.int i2)])) _
  refine XS.istore X0.here hx rfl (hb hby at_39) rfl (l' := #[.val (.int i0), .val (.int i1), .val (.int i2), .val (.int i3), .val (.int i4), .val (.int ((i0 &&& (2147483647 : Int32)) % (6 : Int32))), .val (.int (((i0.toUInt32 >>> ((8 : Int32) &&& 31).toUInt32).toInt32) &&& (3 : Int32))), .val (.int i2), .unset, .unset, .unset, .unset, .unset, .unset, .unset]) rfl ?_
  exact kt
set_option maxRecDepth 65536 in
set_option maxHeartbeats 40000000 in
theorem sgA {p : Program} {l : Launch} {e : Env} {s : State} {m : MethodId} {args : Array Value} {below : List Frame} {meth : Method} {c : Code} {T0 : State} {locs : List Loc} {Z : State} {a0 : Array Value} {h0 : Heap} {n0 : Nat} (i0 : Int32) (i1 : Int32) (i2 : Int32) (i3 : Int32) (i4 : Int32) 
    (X0 : Stand p l e room_1 s m args below meth c T0 locs 0 0) (hx : p.tables.exec = Jvm.exec) (hZ : Z.Warmed39 s.vm) (hw : ∀ d ∈ tables_1, d.before a0 Z = true) (hby : c.code = code) (hml : c.maxLocals = 15) (hown : s.vm.findClass "com/example/restless_reasoner/restlessreasoner/engine/tableau/PremisesIsInequalityPinLaw" = some m.cls) (e0 : T0.heap = h0) (Z0 : n0 ≤ h0.size) (N0 : Fr n0 locs) :
    ∃ (T' : State) (h' : Heap) (locs' : List Loc), Stand p l e room_1 s m args below meth c T' locs' 0 0 ∧ T'.heap = h' ∧ Fr n0 locs' ∧ Keep h0 h' [] ∧
      ∀ target, Steps p.tables e below (T'.setTop (mkF m 41 #[.val (.int i0), .val (.int i1), .val (.int i2), .val (.int i3), .val (.int i4), .val (.int ((i0 &&& (2147483647 : Int32)) % (6 : Int32))), .val (.int (((i0.toUInt32 >>> ((8 : Int32) &&& 31).toUInt32).toInt32) &&& (3 : Int32))), .val (.int (own_sec (((i0.toUInt32 >>> ((8 : Int32) &&& 31).toUInt32).toInt32) &&& (3 : Int32)) i2)), .unset, .unset, .unset, .unset, .unset, .unset, .unset] [])) target → Steps p.tables e below (T0.setTop (mkF m 0 #[.val (.int i0), .val (.int i1), .val (.int i2), .val (.int i3), .val (.int i4), .unset, .unset, .unset, .unset, .unset, .unset, .unset, .unset, .unset, .unset] [])) target := by
  unfold own_sec
  by_cases hc19 : (((i0.toUInt32 >>> ((8 : Int32) &&& 31).toUInt32).toInt32) &&& (3 : Int32)) = (0 : Int32)
  · rw [if_pos hc19]; exact sgA_f i0 i1 i2 i3 i4 X0 hx hZ hw hby hml hown e0 Z0 N0 (by decide) hc19
  · rw [if_neg hc19]
    by_cases hc30 : (((i0.toUInt32 >>> ((8 : Int32) &&& 31).toUInt32).toInt32) &&& (3 : Int32)) = (1 : Int32)
    · rw [if_pos hc30]; exact sgA_tf i0 i1 i2 i3 i4 X0 hx hZ hw hby hml hown e0 Z0 N0 (by decide) hc19 hc30
    · rw [if_neg hc30]; exact sgA_tt i0 i1 i2 i3 i4 X0 hx hZ hw hby hml hown e0 Z0 N0 (by decide) hc19 hc30
set_option maxRecDepth 65536 in
set_option maxHeartbeats 40000000 in
theorem sgB0 {p : Program} {l : Launch} {e : Env} {s : State} {m : MethodId} {args : Array Value} {below : List Frame} {meth : Method} {c : Code} {T0 : State} {locs : List Loc} {Z : State} {a0 : Array Value} {h0 : Heap} {n0 : Nat} (i0 : Int32) (i1 : Int32) (i2 : Int32) (i3 : Int32) (i4 : Int32) (i6 : Int32) (i7 : Int32)
    (X0 : Stand p l e room_1 s m args below meth c T0 locs 0 0) (hx : p.tables.exec = Jvm.exec) (hZ : Z.Warmed39 s.vm) (hw : ∀ d ∈ tables_1, d.before a0 Z = true) (hby : c.code = code) (hml : c.maxLocals = 15) (hown : s.vm.findClass "com/example/restless_reasoner/restlessreasoner/engine/tableau/PremisesIsInequalityPinLaw" = some m.cls) (e0 : T0.heap = h0) (Z0 : n0 ≤ h0.size) (N0 : Fr n0 locs) (hc49 : ¬ ((0 : Int32) < (0 : Int32))) (hc60 : ¬ ((1 : Int32) < (0 : Int32))) (hc72 : ¬ ((2 : Int32) < (0 : Int32))) (hc83 : ¬ ((3 : Int32) < (0 : Int32))) (hc95 : ¬ ((4 : Int32) < (0 : Int32))) :
    ∃ (T' : State) (h' : Heap) (locs' : List Loc) (b6 : Addr) (k6 : ClassId), Stand p l e room_1 s m args below meth c T' locs' 1 5 ∧ T'.heap = h' ∧ Fr n0 locs' ∧ Keep h0 h' [] ∧ n0 ≤ b6 ∧ h0.size ≤ b6 ∧ Arv Z h' b6 k6 .int (0 : Int32) [] (.int (0 : Int32)) ∧
      ∀ target, Steps p.tables e below (T'.setTop (mkF m 105 #[.val (.int i0), .val (.int i1), .val (.int i2), .val (.int i3), .val (.int i4), .val (.int (0 : Int32)), .val (.int i6), .val (.int i7), .val (.ref b6), .unset, .unset, .unset, .unset, .unset, .unset] [])) target → Steps p.tables e below (T0.setTop (mkF m 41 #[.val (.int i0), .val (.int i1), .val (.int i2), .val (.int i3), .val (.int i4), .val (.int (0 : Int32)), .val (.int i6), .val (.int i7), .unset, .unset, .unset, .unset, .unset, .unset, .unset] [])) target := by
  obtain ⟨T6, h6, k6, X6, e6, E6, A6, st6⟩ := newP X0 hx hZ (hw _ (List.mem_of_getElem? (i := 1) rfl)) e0 (g := (mkF m 43 #[.val (.int i0), .val (.int i1), .val (.int i2), .val (.int i3), .val (.int i4), .val (.int (0 : Int32)), .val (.int i6), .val (.int i7), .unset, .unset, .unset, .unset, .unset, .unset, .unset] [(.int (0 : Int32))])) rfl (hb hby at_43) rfl (by decide) (cap := 5) (by decide) (by decide) (by decide) (by decide)
  obtain ⟨b6, g6⟩ : ∃ z, z = h0.size := ⟨_, rfl⟩
  rw [← g6] at A6 st6
  have V_b6 := Arv.new A6 (by decide)
  have g_b6 : n0 ≤ b6 := Nat.le_trans Z0 (Nat.le_of_eq g6.symm)
  have sz_b6 : h0.size ≤ b6 := (Nat.le_trans (Keep.refl h0 []).1 (Nat.le_of_eq g6.symm))
  have K6 : Keep h0 h6 [] := (Keep.refl h0 []).ext E6
  refine ⟨T6, _, _, b6, k6, X6, e6, N0, K6, g_b6, sz_b6, V_b6, fun target kt => ?_⟩
  show Steps p.tables e below (T0.setTop (mkF m 41 #[.val (.int i0), .val (.int i1), .val (.int i2), .val (.int i3), .val (.int i4), .val (.int (0 : Int32)), .val (.int i6), .val (.int i7), .unset, .unset, .unset, .unset, .unset, .unset, .unset] [])) _
  refine XS.iload X0.here hx rfl (hb hby at_41) rfl ?_
  show Steps p.tables e below (T0.setTop (mkF m 43 #[.val (.int i0), .val (.int i1), .val (.int i2), .val (.int i3), .val (.int i4), .val (.int (0 : Int32)), .val (.int i6), .val (.int i7), .unset, .unset, .unset, .unset, .unset, .unset, .unset] [(.int (0 : Int32))])) _
  refine st6 _ ?_
  show Steps p.tables e below (T6.setTop (mkF m 45 #[.val (.int i0), .val (.int i1), .val (.int i2), .val (.int i3), .val (.int i4), .val (.int (0 : Int32)), .val (.int i6), .val (.int i7), .unset, .unset, .unset, .unset, .unset, .unset, .unset] [(.ref b6)])) _
  refine XS.astore X6.here hx rfl (hb hby at_45) rfl rfl (l' := #[.val (.int i0), .val (.int i1), .val (.int i2), .val (.int i3), .val (.int i4), .val (.int (0 : Int32)), .val (.int i6), .val (.int i7), .val (.ref b6), .unset, .unset, .unset, .unset, .unset, .unset]) rfl ?_
  show Steps p.tables e below (T6.setTop (mkF m 47 #[.val (.int i0), .val (.int i1), .val (.int i2), .val (.int i3), .val (.int i4), .val (.int (0 : Int32)), .val (.int i6), .val (.int i7), .val (.ref b6), .unset, .unset, .unset, .unset, .unset, .unset] [])) _
  refine XS.iload X6.here hx rfl (hb hby at_47) rfl ?_
  show Steps p.tables e below (T6.setTop (mkF m 49 #[.val (.int i0), .val (.int i1), .val (.int i2), .val (.int i3), .val (.int i4), .val (.int (0 : Int32)), .val (.int i6), .val (.int i7), .val (.ref b6), .unset, .unset, .unset, .unset, .unset, .unset] [(.int (0 : Int32))])) _
  refine XS.ifYes X6.here hx rfl (pc0 := 49) (pc' := 57) rfl (hb hby at_49) rfl ((if0 _ _).trans (flt hc49).2.2.2) (by decide) (by decide) ?_
  show Steps p.tables e below (T6.setTop (mkF m 57 #[.val (.int i0), .val (.int i1), .val (.int i2), .val (.int i3), .val (.int i4), .val (.int (0 : Int32)), .val (.int i6), .val (.int i7), .val (.ref b6), .unset, .unset, .unset, .unset, .unset, .unset] [])) _
  refine XS.iload X6.here hx rfl (hb hby at_57) rfl ?_
  show Steps p.tables e below (T6.setTop (mkF m 59 #[.val (.int i0), .val (.int i1), .val (.int i2), .val (.int i3), .val (.int i4), .val (.int (0 : Int32)), .val (.int i6), .val (.int i7), .val (.ref b6), .unset, .unset, .unset, .unset, .unset, .unset] [(.int (0 : Int32))])) _
  refine XS.iconst X6.here hx rfl (hb hby at_59) ?_
  show Steps p.tables e below (T6.setTop (mkF m 60 #[.val (.int i0), .val (.int i1), .val (.int i2), .val (.int i3), .val (.int i4), .val (.int (0 : Int32)), .val (.int i6), .val (.int i7), .val (.ref b6), .unset, .unset, .unset, .unset, .unset, .unset] [(.int (1 : Int32)), (.int (0 : Int32))])) _
  refine XS.icmpYes X6.here hx rfl (pc0 := 60) (pc' := 69) rfl (hb hby at_60) rfl (flt hc60).2.2.2 (by decide) (by decide) ?_
  show Steps p.tables e below (T6.setTop (mkF m 69 #[.val (.int i0), .val (.int i1), .val (.int i2), .val (.int i3), .val (.int i4), .val (.int (0 : Int32)), .val (.int i6), .val (.int i7), .val (.ref b6), .unset, .unset, .unset, .unset, .unset, .unset] [])) _
  refine XS.iload X6.here hx rfl (hb hby at_69) rfl ?_
  show Steps p.tables e below (T6.setTop (mkF m 71 #[.val (.int i0), .val (.int i1), .val (.int i2), .val (.int i3), .val (.int i4), .val (.int (0 : Int32)), .val (.int i6), .val (.int i7), .val (.ref b6), .unset, .unset, .unset, .unset, .unset, .unset] [(.int (0 : Int32))])) _
  refine XS.iconst X6.here hx rfl (hb hby at_71) ?_
  show Steps p.tables e below (T6.setTop (mkF m 72 #[.val (.int i0), .val (.int i1), .val (.int i2), .val (.int i3), .val (.int i4), .val (.int (0 : Int32)), .val (.int i6), .val (.int i7), .val (.ref b6), .unset, .unset, .unset, .unset, .unset, .unset] [(.int (2 : Int32)), (.int (0 : Int32))])) _
  refine XS.icmpYes X6.here hx rfl (pc0 := 72) (pc' := 80) rfl (hb hby at_72) rfl (flt hc72).2.2.2 (by decide) (by decide) ?_
  show Steps p.tables e below (T6.setTop (mkF m 80 #[.val (.int i0), .val (.int i1), .val (.int i2), .val (.int i3), .val (.int i4), .val (.int (0 : Int32)), .val (.int i6), .val (.int i7), .val (.ref b6), .unset, .unset, .unset, .unset, .unset, .unset] [])) _
  refine XS.iload X6.here hx rfl (hb hby at_80) rfl ?_
  show Steps p.tables e below (T6.setTop (mkF m 82 #[.val (.int i0), .val (.int i1), .val (.int i2), .val (.int i3), .val (.int i4), .val (.int (0 : Int32)), .val (.int i6), .val (.int i7), .val (.ref b6), .unset, .unset, .unset, .unset, .unset, .unset] [(.int (0 : Int32))])) _
  refine XS.iconst X6.here hx rfl (hb hby at_82) ?_
  show Steps p.tables e below (T6.setTop (mkF m 83 #[.val (.int i0), .val (.int i1), .val (.int i2), .val (.int i3), .val (.int i4), .val (.int (0 : Int32)), .val (.int i6), .val (.int i7), .val (.ref b6), .unset, .unset, .unset, .unset, .unset, .unset] [(.int (3 : Int32)), (.int (0 : Int32))])) _
  refine XS.icmpYes X6.here hx rfl (pc0 := 83) (pc' := 92) rfl (hb hby at_83) rfl (flt hc83).2.2.2 (by decide) (by decide) ?_
  show Steps p.tables e below (T6.setTop (mkF m 92 #[.val (.int i0), .val (.int i1), .val (.int i2), .val (.int i3), .val (.int i4), .val (.int (0 : Int32)), .val (.int i6), .val (.int i7), .val (.ref b6), .unset, .unset, .unset, .unset, .unset, .unset] [])) _
  refine XS.iload X6.here hx rfl (hb hby at_92) rfl ?_
  show Steps p.tables e below (T6.setTop (mkF m 94 #[.val (.int i0), .val (.int i1), .val (.int i2), .val (.int i3), .val (.int i4), .val (.int (0 : Int32)), .val (.int i6), .val (.int i7), .val (.ref b6), .unset, .unset, .unset, .unset, .unset, .unset] [(.int (0 : Int32))])) _
  refine XS.iconst X6.here hx rfl (hb hby at_94) ?_
  show Steps p.tables e below (T6.setTop (mkF m 95 #[.val (.int i0), .val (.int i1), .val (.int i2), .val (.int i3), .val (.int i4), .val (.int (0 : Int32)), .val (.int i6), .val (.int i7), .val (.ref b6), .unset, .unset, .unset, .unset, .unset, .unset] [(.int (4 : Int32)), (.int (0 : Int32))])) _
  refine XS.icmpYes X6.here hx rfl (pc0 := 95) (pc' := 105) rfl (hb hby at_95) rfl (flt hc95).2.2.2 (by decide) (by decide) ?_
  exact kt
set_option maxRecDepth 65536 in
set_option maxHeartbeats 40000000 in
theorem sgB1 {p : Program} {l : Launch} {e : Env} {s : State} {m : MethodId} {args : Array Value} {below : List Frame} {meth : Method} {c : Code} {T0 : State} {locs : List Loc} {Z : State} {a0 : Array Value} {h0 : Heap} {n0 : Nat} (i0 : Int32) (i1 : Int32) (i2 : Int32) (i3 : Int32) (i4 : Int32) (i6 : Int32) (i7 : Int32)
    (X0 : Stand p l e room_1 s m args below meth c T0 locs 0 0) (hx : p.tables.exec = Jvm.exec) (hZ : Z.Warmed39 s.vm) (hw : ∀ d ∈ tables_1, d.before a0 Z = true) (hby : c.code = code) (hml : c.maxLocals = 15) (hown : s.vm.findClass "com/example/restless_reasoner/restlessreasoner/engine/tableau/PremisesIsInequalityPinLaw" = some m.cls) (e0 : T0.heap = h0) (Z0 : n0 ≤ h0.size) (N0 : Fr n0 locs) (hc49 : (0 : Int32) < (1 : Int32)) (hc60 : ¬ ((1 : Int32) < (1 : Int32))) (hc72 : ¬ ((2 : Int32) < (1 : Int32))) (hc83 : ¬ ((3 : Int32) < (1 : Int32))) (hc95 : ¬ ((4 : Int32) < (1 : Int32))) :
    ∃ (T' : State) (h' : Heap) (locs' : List Loc) (b6 : Addr) (k6 : ClassId), Stand p l e room_1 s m args below meth c T' locs' 1 5 ∧ T'.heap = h' ∧ Fr n0 locs' ∧ Keep h0 h' [] ∧ n0 ≤ b6 ∧ h0.size ≤ b6 ∧ Arv Z h' b6 k6 .int (1 : Int32) [(.int i1)] (.int (0 : Int32)) ∧
      ∀ target, Steps p.tables e below (T'.setTop (mkF m 105 #[.val (.int i0), .val (.int i1), .val (.int i2), .val (.int i3), .val (.int i4), .val (.int (1 : Int32)), .val (.int i6), .val (.int i7), .val (.ref b6), .unset, .unset, .unset, .unset, .unset, .unset] [])) target → Steps p.tables e below (T0.setTop (mkF m 41 #[.val (.int i0), .val (.int i1), .val (.int i2), .val (.int i3), .val (.int i4), .val (.int (1 : Int32)), .val (.int i6), .val (.int i7), .unset, .unset, .unset, .unset, .unset, .unset, .unset] [])) target := by
  obtain ⟨T6, h6, k6, X6, e6, E6, A6, st6⟩ := newP X0 hx hZ (hw _ (List.mem_of_getElem? (i := 1) rfl)) e0 (g := (mkF m 43 #[.val (.int i0), .val (.int i1), .val (.int i2), .val (.int i3), .val (.int i4), .val (.int (1 : Int32)), .val (.int i6), .val (.int i7), .unset, .unset, .unset, .unset, .unset, .unset, .unset] [(.int (1 : Int32))])) rfl (hb hby at_43) rfl (by decide) (cap := 5) (by decide) (by decide) (by decide) (by decide)
  obtain ⟨b6, g6⟩ : ∃ z, z = h0.size := ⟨_, rfl⟩
  rw [← g6] at A6 st6
  have V_b6 : Arv Z h6 b6 k6 .int (1 : Int32) [(.int (0 : Int32))] (.int (0 : Int32)) := (Arv.new A6 (by decide)).pad (pad_rep [] (.int (0 : Int32)) 1)
  have g_b6 : n0 ≤ b6 := Nat.le_trans Z0 (Nat.le_of_eq g6.symm)
  have sz_b6 : h0.size ≤ b6 := (Nat.le_trans (Keep.refl h0 []).1 (Nat.le_of_eq g6.symm))
  have K6 : Keep h0 h6 [] := (Keep.refl h0 []).ext E6
  obtain ⟨cl_b6_56, Ar_b6, q_b6, S_b6, N_b6, H_b6, G_b6⟩ := V_b6
  have hin56 : ¬ ((0 : Int32) < 0 ∨ cl_b6_56.slots.size ≤ ((0 : Int32)).toNatClampNeg) := inb_of S_b6 ⟨by decide, by decide⟩
  obtain ⟨T7, h7, X7, e7, W7, st7⟩ := stI X6 hx hZ e6 Ar_b6 (j := (0 : Int32)) hin56 (g := (mkF m 56 #[.val (.int i0), .val (.int i1), .val (.int i2), .val (.int i3), .val (.int i4), .val (.int (1 : Int32)), .val (.int i6), .val (.int i7), .val (.ref b6), .unset, .unset, .unset, .unset, .unset, .unset] [(.int i1), (.int (0 : Int32)), (.ref b6)])) rfl rfl (hb hby at_56)
  have V_b6_7 := Arv.set Ar_b6 q_b6 S_b6 N_b6 H_b6 G_b6 rfl W7 0 rfl (Nat.le_of_ble_eq_true rfl)
  have K7 : Keep h0 h7 [] := K6.wr W7 (Or.inr sz_b6)
  have N7 := Fr.snoc X7 N0 g_b6
  refine ⟨T7, _, _, b6, k6, X7, e7, N7, K7, g_b6, sz_b6, V_b6_7, fun target kt => ?_⟩
  show Steps p.tables e below (T0.setTop (mkF m 41 #[.val (.int i0), .val (.int i1), .val (.int i2), .val (.int i3), .val (.int i4), .val (.int (1 : Int32)), .val (.int i6), .val (.int i7), .unset, .unset, .unset, .unset, .unset, .unset, .unset] [])) _
  refine XS.iload X0.here hx rfl (hb hby at_41) rfl ?_
  show Steps p.tables e below (T0.setTop (mkF m 43 #[.val (.int i0), .val (.int i1), .val (.int i2), .val (.int i3), .val (.int i4), .val (.int (1 : Int32)), .val (.int i6), .val (.int i7), .unset, .unset, .unset, .unset, .unset, .unset, .unset] [(.int (1 : Int32))])) _
  refine st6 _ ?_
  show Steps p.tables e below (T6.setTop (mkF m 45 #[.val (.int i0), .val (.int i1), .val (.int i2), .val (.int i3), .val (.int i4), .val (.int (1 : Int32)), .val (.int i6), .val (.int i7), .unset, .unset, .unset, .unset, .unset, .unset, .unset] [(.ref b6)])) _
  refine XS.astore X6.here hx rfl (hb hby at_45) rfl rfl (l' := #[.val (.int i0), .val (.int i1), .val (.int i2), .val (.int i3), .val (.int i4), .val (.int (1 : Int32)), .val (.int i6), .val (.int i7), .val (.ref b6), .unset, .unset, .unset, .unset, .unset, .unset]) rfl ?_
  show Steps p.tables e below (T6.setTop (mkF m 47 #[.val (.int i0), .val (.int i1), .val (.int i2), .val (.int i3), .val (.int i4), .val (.int (1 : Int32)), .val (.int i6), .val (.int i7), .val (.ref b6), .unset, .unset, .unset, .unset, .unset, .unset] [])) _
  refine XS.iload X6.here hx rfl (hb hby at_47) rfl ?_
  show Steps p.tables e below (T6.setTop (mkF m 49 #[.val (.int i0), .val (.int i1), .val (.int i2), .val (.int i3), .val (.int i4), .val (.int (1 : Int32)), .val (.int i6), .val (.int i7), .val (.ref b6), .unset, .unset, .unset, .unset, .unset, .unset] [(.int (1 : Int32))])) _
  refine XS.ifNo X6.here hx rfl (hb hby at_49) rfl ((if0 _ _).trans (tlt hc49).2.2.2) ?_
  show Steps p.tables e below (T6.setTop (mkF m 52 #[.val (.int i0), .val (.int i1), .val (.int i2), .val (.int i3), .val (.int i4), .val (.int (1 : Int32)), .val (.int i6), .val (.int i7), .val (.ref b6), .unset, .unset, .unset, .unset, .unset, .unset] [])) _
  refine XS.aload X6.here hx rfl (hb hby at_52) rfl rfl ?_
  show Steps p.tables e below (T6.setTop (mkF m 54 #[.val (.int i0), .val (.int i1), .val (.int i2), .val (.int i3), .val (.int i4), .val (.int (1 : Int32)), .val (.int i6), .val (.int i7), .val (.ref b6), .unset, .unset, .unset, .unset, .unset, .unset] [(.ref b6)])) _
  refine XS.iconst X6.here hx rfl (hb hby at_54) ?_
  show Steps p.tables e below (T6.setTop (mkF m 55 #[.val (.int i0), .val (.int i1), .val (.int i2), .val (.int i3), .val (.int i4), .val (.int (1 : Int32)), .val (.int i6), .val (.int i7), .val (.ref b6), .unset, .unset, .unset, .unset, .unset, .unset] [(.int (0 : Int32)), (.ref b6)])) _
  refine XS.iloadN X6.here hx rfl (hb hby at_55) rfl ?_
  show Steps p.tables e below (T6.setTop (mkF m 56 #[.val (.int i0), .val (.int i1), .val (.int i2), .val (.int i3), .val (.int i4), .val (.int (1 : Int32)), .val (.int i6), .val (.int i7), .val (.ref b6), .unset, .unset, .unset, .unset, .unset, .unset] [(.int i1), (.int (0 : Int32)), (.ref b6)])) _
  refine st7 _ ?_
  show Steps p.tables e below (T7.setTop (mkF m 57 #[.val (.int i0), .val (.int i1), .val (.int i2), .val (.int i3), .val (.int i4), .val (.int (1 : Int32)), .val (.int i6), .val (.int i7), .val (.ref b6), .unset, .unset, .unset, .unset, .unset, .unset] [])) _
  refine XS.iload X7.here hx rfl (hb hby at_57) rfl ?_
  show Steps p.tables e below (T7.setTop (mkF m 59 #[.val (.int i0), .val (.int i1), .val (.int i2), .val (.int i3), .val (.int i4), .val (.int (1 : Int32)), .val (.int i6), .val (.int i7), .val (.ref b6), .unset, .unset, .unset, .unset, .unset, .unset] [(.int (1 : Int32))])) _
  refine XS.iconst X7.here hx rfl (hb hby at_59) ?_
  show Steps p.tables e below (T7.setTop (mkF m 60 #[.val (.int i0), .val (.int i1), .val (.int i2), .val (.int i3), .val (.int i4), .val (.int (1 : Int32)), .val (.int i6), .val (.int i7), .val (.ref b6), .unset, .unset, .unset, .unset, .unset, .unset] [(.int (1 : Int32)), (.int (1 : Int32))])) _
  refine XS.icmpYes X7.here hx rfl (pc0 := 60) (pc' := 69) rfl (hb hby at_60) rfl (flt hc60).2.2.2 (by decide) (by decide) ?_
  show Steps p.tables e below (T7.setTop (mkF m 69 #[.val (.int i0), .val (.int i1), .val (.int i2), .val (.int i3), .val (.int i4), .val (.int (1 : Int32)), .val (.int i6), .val (.int i7), .val (.ref b6), .unset, .unset, .unset, .unset, .unset, .unset] [])) _
  refine XS.iload X7.here hx rfl (hb hby at_69) rfl ?_
  show Steps p.tables e below (T7.setTop (mkF m 71 #[.val (.int i0), .val (.int i1), .val (.int i2), .val (.int i3), .val (.int i4), .val (.int (1 : Int32)), .val (.int i6), .val (.int i7), .val (.ref b6), .unset, .unset, .unset, .unset, .unset, .unset] [(.int (1 : Int32))])) _
  refine XS.iconst X7.here hx rfl (hb hby at_71) ?_
  show Steps p.tables e below (T7.setTop (mkF m 72 #[.val (.int i0), .val (.int i1), .val (.int i2), .val (.int i3), .val (.int i4), .val (.int (1 : Int32)), .val (.int i6), .val (.int i7), .val (.ref b6), .unset, .unset, .unset, .unset, .unset, .unset] [(.int (2 : Int32)), (.int (1 : Int32))])) _
  refine XS.icmpYes X7.here hx rfl (pc0 := 72) (pc' := 80) rfl (hb hby at_72) rfl (flt hc72).2.2.2 (by decide) (by decide) ?_
  show Steps p.tables e below (T7.setTop (mkF m 80 #[.val (.int i0), .val (.int i1), .val (.int i2), .val (.int i3), .val (.int i4), .val (.int (1 : Int32)), .val (.int i6), .val (.int i7), .val (.ref b6), .unset, .unset, .unset, .unset, .unset, .unset] [])) _
  refine XS.iload X7.here hx rfl (hb hby at_80) rfl ?_
  show Steps p.tables e below (T7.setTop (mkF m 82 #[.val (.int i0), .val (.int i1), .val (.int i2), .val (.int i3), .val (.int i4), .val (.int (1 : Int32)), .val (.int i6), .val (.int i7), .val (.ref b6), .unset, .unset, .unset, .unset, .unset, .unset] [(.int (1 : Int32))])) _
  refine XS.iconst X7.here hx rfl (hb hby at_82) ?_
  show Steps p.tables e below (T7.setTop (mkF m 83 #[.val (.int i0), .val (.int i1), .val (.int i2), .val (.int i3), .val (.int i4), .val (.int (1 : Int32)), .val (.int i6), .val (.int i7), .val (.ref b6), .unset, .unset, .unset, .unset, .unset, .unset] [(.int (3 : Int32)), (.int (1 : Int32))])) _
  refine XS.icmpYes X7.here hx rfl (pc0 := 83) (pc' := 92) rfl (hb hby at_83) rfl (flt hc83).2.2.2 (by decide) (by decide) ?_
  show Steps p.tables e below (T7.setTop (mkF m 92 #[.val (.int i0), .val (.int i1), .val (.int i2), .val (.int i3), .val (.int i4), .val (.int (1 : Int32)), .val (.int i6), .val (.int i7), .val (.ref b6), .unset, .unset, .unset, .unset, .unset, .unset] [])) _
  refine XS.iload X7.here hx rfl (hb hby at_92) rfl ?_
  show Steps p.tables e below (T7.setTop (mkF m 94 #[.val (.int i0), .val (.int i1), .val (.int i2), .val (.int i3), .val (.int i4), .val (.int (1 : Int32)), .val (.int i6), .val (.int i7), .val (.ref b6), .unset, .unset, .unset, .unset, .unset, .unset] [(.int (1 : Int32))])) _
  refine XS.iconst X7.here hx rfl (hb hby at_94) ?_
  show Steps p.tables e below (T7.setTop (mkF m 95 #[.val (.int i0), .val (.int i1), .val (.int i2), .val (.int i3), .val (.int i4), .val (.int (1 : Int32)), .val (.int i6), .val (.int i7), .val (.ref b6), .unset, .unset, .unset, .unset, .unset, .unset] [(.int (4 : Int32)), (.int (1 : Int32))])) _
  refine XS.icmpYes X7.here hx rfl (pc0 := 95) (pc' := 105) rfl (hb hby at_95) rfl (flt hc95).2.2.2 (by decide) (by decide) ?_
  exact kt
set_option maxRecDepth 65536 in
set_option maxHeartbeats 40000000 in
theorem sgB2 {p : Program} {l : Launch} {e : Env} {s : State} {m : MethodId} {args : Array Value} {below : List Frame} {meth : Method} {c : Code} {T0 : State} {locs : List Loc} {Z : State} {a0 : Array Value} {h0 : Heap} {n0 : Nat} (i0 : Int32) (i1 : Int32) (i2 : Int32) (i3 : Int32) (i4 : Int32) (i6 : Int32) (i7 : Int32)
    (X0 : Stand p l e room_1 s m args below meth c T0 locs 0 0) (hx : p.tables.exec = Jvm.exec) (hZ : Z.Warmed39 s.vm) (hw : ∀ d ∈ tables_1, d.before a0 Z = true) (hby : c.code = code) (hml : c.maxLocals = 15) (hown : s.vm.findClass "com/example/restless_reasoner/restlessreasoner/engine/tableau/PremisesIsInequalityPinLaw" = some m.cls) (e0 : T0.heap = h0) (Z0 : n0 ≤ h0.size) (N0 : Fr n0 locs) (hc49 : (0 : Int32) < (2 : Int32)) (hc60 : (1 : Int32) < (2 : Int32)) (hc72 : ¬ ((2 : Int32) < (2 : Int32))) (hc83 : ¬ ((3 : Int32) < (2 : Int32))) (hc95 : ¬ ((4 : Int32) < (2 : Int32))) :
    ∃ (T' : State) (h' : Heap) (locs' : List Loc) (b6 : Addr) (k6 : ClassId), Stand p l e room_1 s m args below meth c T' locs' 1 5 ∧ T'.heap = h' ∧ Fr n0 locs' ∧ Keep h0 h' [] ∧ n0 ≤ b6 ∧ h0.size ≤ b6 ∧ Arv Z h' b6 k6 .int (2 : Int32) [(.int i1), (.int i7)] (.int (0 : Int32)) ∧
      ∀ target, Steps p.tables e below (T'.setTop (mkF m 105 #[.val (.int i0), .val (.int i1), .val (.int i2), .val (.int i3), .val (.int i4), .val (.int (2 : Int32)), .val (.int i6), .val (.int i7), .val (.ref b6), .unset, .unset, .unset, .unset, .unset, .unset] [])) target → Steps p.tables e below (T0.setTop (mkF m 41 #[.val (.int i0), .val (.int i1), .val (.int i2), .val (.int i3), .val (.int i4), .val (.int (2 : Int32)), .val (.int i6), .val (.int i7), .unset, .unset, .unset, .unset, .unset, .unset, .unset] [])) target := by
  obtain ⟨T6, h6, k6, X6, e6, E6, A6, st6⟩ := newP X0 hx hZ (hw _ (List.mem_of_getElem? (i := 1) rfl)) e0 (g := (mkF m 43 #[.val (.int i0), .val (.int i1), .val (.int i2), .val (.int i3), .val (.int i4), .val (.int (2 : Int32)), .val (.int i6), .val (.int i7), .unset, .unset, .unset, .unset, .unset, .unset, .unset] [(.int (2 : Int32))])) rfl (hb hby at_43) rfl (by decide) (cap := 5) (by decide) (by decide) (by decide) (by decide)
  obtain ⟨b6, g6⟩ : ∃ z, z = h0.size := ⟨_, rfl⟩
  rw [← g6] at A6 st6
  have V_b6 : Arv Z h6 b6 k6 .int (2 : Int32) [(.int (0 : Int32)), (.int (0 : Int32))] (.int (0 : Int32)) := (Arv.new A6 (by decide)).pad (pad_rep [] (.int (0 : Int32)) 2)
  have g_b6 : n0 ≤ b6 := Nat.le_trans Z0 (Nat.le_of_eq g6.symm)
  have sz_b6 : h0.size ≤ b6 := (Nat.le_trans (Keep.refl h0 []).1 (Nat.le_of_eq g6.symm))
  have K6 : Keep h0 h6 [] := (Keep.refl h0 []).ext E6
  obtain ⟨cl_b6_56, Ar_b6, q_b6, S_b6, N_b6, H_b6, G_b6⟩ := V_b6
  have hin56 : ¬ ((0 : Int32) < 0 ∨ cl_b6_56.slots.size ≤ ((0 : Int32)).toNatClampNeg) := inb_of S_b6 ⟨by decide, by decide⟩
  obtain ⟨T7, h7, X7, e7, W7, st7⟩ := stI X6 hx hZ e6 Ar_b6 (j := (0 : Int32)) hin56 (g := (mkF m 56 #[.val (.int i0), .val (.int i1), .val (.int i2), .val (.int i3), .val (.int i4), .val (.int (2 : Int32)), .val (.int i6), .val (.int i7), .val (.ref b6), .unset, .unset, .unset, .unset, .unset, .unset] [(.int i1), (.int (0 : Int32)), (.ref b6)])) rfl rfl (hb hby at_56)
  have V_b6_7 := Arv.set Ar_b6 q_b6 S_b6 N_b6 H_b6 G_b6 rfl W7 0 rfl (Nat.le_of_ble_eq_true rfl)
  have K7 : Keep h0 h7 [] := K6.wr W7 (Or.inr sz_b6)
  have N7 := Fr.snoc X7 N0 g_b6
  obtain ⟨cl_b6_68, Ar_b6, q_b6, S_b6, N_b6, H_b6, G_b6⟩ := V_b6_7
  have hin68 : ¬ ((1 : Int32) < 0 ∨ cl_b6_68.slots.size ≤ ((1 : Int32)).toNatClampNeg) := inb_of S_b6 ⟨by decide, by decide⟩
  obtain ⟨T8, h8, X8, e8, W8, st8⟩ := stI X7 hx hZ e7 Ar_b6 (j := (1 : Int32)) hin68 (g := (mkF m 68 #[.val (.int i0), .val (.int i1), .val (.int i2), .val (.int i3), .val (.int i4), .val (.int (2 : Int32)), .val (.int i6), .val (.int i7), .val (.ref b6), .unset, .unset, .unset, .unset, .unset, .unset] [(.int i7), (.int (1 : Int32)), (.ref b6)])) rfl rfl (hb hby at_68)
  have V_b6_8 := Arv.set Ar_b6 q_b6 S_b6 N_b6 H_b6 G_b6 rfl W8 1 rfl (Nat.le_of_ble_eq_true rfl)
  have K8 : Keep h0 h8 [] := K7.wr W8 (Or.inr sz_b6)
  have N8 := Fr.snoc X8 N7 g_b6
  refine ⟨T8, _, _, b6, k6, X8, e8, N8, K8, g_b6, sz_b6, V_b6_8, fun target kt => ?_⟩
  show Steps p.tables e below (T0.setTop (mkF m 41 #[.val (.int i0), .val (.int i1), .val (.int i2), .val (.int i3), .val (.int i4), .val (.int (2 : Int32)), .val (.int i6), .val (.int i7), .unset, .unset, .unset, .unset, .unset, .unset, .unset] [])) _
  refine XS.iload X0.here hx rfl (hb hby at_41) rfl ?_
  show Steps p.tables e below (T0.setTop (mkF m 43 #[.val (.int i0), .val (.int i1), .val (.int i2), .val (.int i3), .val (.int i4), .val (.int (2 : Int32)), .val (.int i6), .val (.int i7), .unset, .unset, .unset, .unset, .unset, .unset, .unset] [(.int (2 : Int32))])) _
  refine st6 _ ?_
  show Steps p.tables e below (T6.setTop (mkF m 45 #[.val (.int i0), .val (.int i1), .val (.int i2), .val (.int i3), .val (.int i4), .val (.int (2 : Int32)), .val (.int i6), .val (.int i7), .unset, .unset, .unset, .unset, .unset, .unset, .unset] [(.ref b6)])) _
  refine XS.astore X6.here hx rfl (hb hby at_45) rfl rfl (l' := #[.val (.int i0), .val (.int i1), .val (.int i2), .val (.int i3), .val (.int i4), .val (.int (2 : Int32)), .val (.int i6), .val (.int i7), .val (.ref b6), .unset, .unset, .unset, .unset, .unset, .unset]) rfl ?_
  show Steps p.tables e below (T6.setTop (mkF m 47 #[.val (.int i0), .val (.int i1), .val (.int i2), .val (.int i3), .val (.int i4), .val (.int (2 : Int32)), .val (.int i6), .val (.int i7), .val (.ref b6), .unset, .unset, .unset, .unset, .unset, .unset] [])) _
  refine XS.iload X6.here hx rfl (hb hby at_47) rfl ?_
  show Steps p.tables e below (T6.setTop (mkF m 49 #[.val (.int i0), .val (.int i1), .val (.int i2), .val (.int i3), .val (.int i4), .val (.int (2 : Int32)), .val (.int i6), .val (.int i7), .val (.ref b6), .unset, .unset, .unset, .unset, .unset, .unset] [(.int (2 : Int32))])) _
  refine XS.ifNo X6.here hx rfl (hb hby at_49) rfl ((if0 _ _).trans (tlt hc49).2.2.2) ?_
  show Steps p.tables e below (T6.setTop (mkF m 52 #[.val (.int i0), .val (.int i1), .val (.int i2), .val (.int i3), .val (.int i4), .val (.int (2 : Int32)), .val (.int i6), .val (.int i7), .val (.ref b6), .unset, .unset, .unset, .unset, .unset, .unset] [])) _
  refine XS.aload X6.here hx rfl (hb hby at_52) rfl rfl ?_
  show Steps p.tables e below (T6.setTop (mkF m 54 #[.val (.int i0), .val (.int i1), .val (.int i2), .val (.int i3), .val (.int i4), .val (.int (2 : Int32)), .val (.int i6), .val (.int i7), .val (.ref b6), .unset, .unset, .unset, .unset, .unset, .unset] [(.ref b6)])) _
  refine XS.iconst X6.here hx rfl (hb hby at_54) ?_
  show Steps p.tables e below (T6.setTop (mkF m 55 #[.val (.int i0), .val (.int i1), .val (.int i2), .val (.int i3), .val (.int i4), .val (.int (2 : Int32)), .val (.int i6), .val (.int i7), .val (.ref b6), .unset, .unset, .unset, .unset, .unset, .unset] [(.int (0 : Int32)), (.ref b6)])) _
  refine XS.iloadN X6.here hx rfl (hb hby at_55) rfl ?_
  show Steps p.tables e below (T6.setTop (mkF m 56 #[.val (.int i0), .val (.int i1), .val (.int i2), .val (.int i3), .val (.int i4), .val (.int (2 : Int32)), .val (.int i6), .val (.int i7), .val (.ref b6), .unset, .unset, .unset, .unset, .unset, .unset] [(.int i1), (.int (0 : Int32)), (.ref b6)])) _
  refine st7 _ ?_
  show Steps p.tables e below (T7.setTop (mkF m 57 #[.val (.int i0), .val (.int i1), .val (.int i2), .val (.int i3), .val (.int i4), .val (.int (2 : Int32)), .val (.int i6), .val (.int i7), .val (.ref b6), .unset, .unset, .unset, .unset, .unset, .unset] [])) _
  refine XS.iload X7.here hx rfl (hb hby at_57) rfl ?_
  show Steps p.tables e below (T7.setTop (mkF m 59 #[.val (.int i0), .val (.int i1), .val (.int i2), .val (.int i3), .val (.int i4), .val (.int (2 : Int32)), .val (.int i6), .val (.int i7), .val (.ref b6), .unset, .unset, .unset, .unset, .unset, .unset] [(.int (2 : Int32))])) _
  refine XS.iconst X7.here hx rfl (hb hby at_59) ?_
  show Steps p.tables e below (T7.setTop (mkF m 60 #[.val (.int i0), .val (.int i1), .val (.int i2), .val (.int i3), .val (.int i4), .val (.int (2 : Int32)), .val (.int i6), .val (.int i7), .val (.ref b6), .unset, .unset, .unset, .unset, .unset, .unset] [(.int (1 : Int32)), (.int (2 : Int32))])) _
  refine XS.icmpNo X7.here hx rfl (hb hby at_60) rfl (tlt hc60).2.2.2 ?_
  show Steps p.tables e below (T7.setTop (mkF m 63 #[.val (.int i0), .val (.int i1), .val (.int i2), .val (.int i3), .val (.int i4), .val (.int (2 : Int32)), .val (.int i6), .val (.int i7), .val (.ref b6), .unset, .unset, .unset, .unset, .unset, .unset] [])) _
  refine XS.aload X7.here hx rfl (hb hby at_63) rfl rfl ?_
  show Steps p.tables e below (T7.setTop (mkF m 65 #[.val (.int i0), .val (.int i1), .val (.int i2), .val (.int i3), .val (.int i4), .val (.int (2 : Int32)), .val (.int i6), .val (.int i7), .val (.ref b6), .unset, .unset, .unset, .unset, .unset, .unset] [(.ref b6)])) _
  refine XS.iconst X7.here hx rfl (hb hby at_65) ?_
  show Steps p.tables e below (T7.setTop (mkF m 66 #[.val (.int i0), .val (.int i1), .val (.int i2), .val (.int i3), .val (.int i4), .val (.int (2 : Int32)), .val (.int i6), .val (.int i7), .val (.ref b6), .unset, .unset, .unset, .unset, .unset, .unset] [(.int (1 : Int32)), (.ref b6)])) _
  refine XS.iload X7.here hx rfl (hb hby at_66) rfl ?_
  show Steps p.tables e below (T7.setTop (mkF m 68 #[.val (.int i0), .val (.int i1), .val (.int i2), .val (.int i3), .val (.int i4), .val (.int (2 : Int32)), .val (.int i6), .val (.int i7), .val (.ref b6), .unset, .unset, .unset, .unset, .unset, .unset] [(.int i7), (.int (1 : Int32)), (.ref b6)])) _
  refine st8 _ ?_
  show Steps p.tables e below (T8.setTop (mkF m 69 #[.val (.int i0), .val (.int i1), .val (.int i2), .val (.int i3), .val (.int i4), .val (.int (2 : Int32)), .val (.int i6), .val (.int i7), .val (.ref b6), .unset, .unset, .unset, .unset, .unset, .unset] [])) _
  refine XS.iload X8.here hx rfl (hb hby at_69) rfl ?_
  show Steps p.tables e below (T8.setTop (mkF m 71 #[.val (.int i0), .val (.int i1), .val (.int i2), .val (.int i3), .val (.int i4), .val (.int (2 : Int32)), .val (.int i6), .val (.int i7), .val (.ref b6), .unset, .unset, .unset, .unset, .unset, .unset] [(.int (2 : Int32))])) _
  refine XS.iconst X8.here hx rfl (hb hby at_71) ?_
  show Steps p.tables e below (T8.setTop (mkF m 72 #[.val (.int i0), .val (.int i1), .val (.int i2), .val (.int i3), .val (.int i4), .val (.int (2 : Int32)), .val (.int i6), .val (.int i7), .val (.ref b6), .unset, .unset, .unset, .unset, .unset, .unset] [(.int (2 : Int32)), (.int (2 : Int32))])) _
  refine XS.icmpYes X8.here hx rfl (pc0 := 72) (pc' := 80) rfl (hb hby at_72) rfl (flt hc72).2.2.2 (by decide) (by decide) ?_
  show Steps p.tables e below (T8.setTop (mkF m 80 #[.val (.int i0), .val (.int i1), .val (.int i2), .val (.int i3), .val (.int i4), .val (.int (2 : Int32)), .val (.int i6), .val (.int i7), .val (.ref b6), .unset, .unset, .unset, .unset, .unset, .unset] [])) _
  refine XS.iload X8.here hx rfl (hb hby at_80) rfl ?_
  show Steps p.tables e below (T8.setTop (mkF m 82 #[.val (.int i0), .val (.int i1), .val (.int i2), .val (.int i3), .val (.int i4), .val (.int (2 : Int32)), .val (.int i6), .val (.int i7), .val (.ref b6), .unset, .unset, .unset, .unset, .unset, .unset] [(.int (2 : Int32))])) _
  refine XS.iconst X8.here hx rfl (hb hby at_82) ?_
  show Steps p.tables e below (T8.setTop (mkF m 83 #[.val (.int i0), .val (.int i1), .val (.int i2), .val (.int i3), .val (.int i4), .val (.int (2 : Int32)), .val (.int i6), .val (.int i7), .val (.ref b6), .unset, .unset, .unset, .unset, .unset, .unset] [(.int (3 : Int32)), (.int (2 : Int32))])) _
  refine XS.icmpYes X8.here hx rfl (pc0 := 83) (pc' := 92) rfl (hb hby at_83) rfl (flt hc83).2.2.2 (by decide) (by decide) ?_
  show Steps p.tables e below (T8.setTop (mkF m 92 #[.val (.int i0), .val (.int i1), .val (.int i2), .val (.int i3), .val (.int i4), .val (.int (2 : Int32)), .val (.int i6), .val (.int i7), .val (.ref b6), .unset, .unset, .unset, .unset, .unset, .unset] [])) _
  refine XS.iload X8.here hx rfl (hb hby at_92) rfl ?_
  show Steps p.tables e below (T8.setTop (mkF m 94 #[.val (.int i0), .val (.int i1), .val (.int i2), .val (.int i3), .val (.int i4), .val (.int (2 : Int32)), .val (.int i6), .val (.int i7), .val (.ref b6), .unset, .unset, .unset, .unset, .unset, .unset] [(.int (2 : Int32))])) _
  refine XS.iconst X8.here hx rfl (hb hby at_94) ?_
  show Steps p.tables e below (T8.setTop (mkF m 95 #[.val (.int i0), .val (.int i1), .val (.int i2), .val (.int i3), .val (.int i4), .val (.int (2 : Int32)), .val (.int i6), .val (.int i7), .val (.ref b6), .unset, .unset, .unset, .unset, .unset, .unset] [(.int (4 : Int32)), (.int (2 : Int32))])) _
  refine XS.icmpYes X8.here hx rfl (pc0 := 95) (pc' := 105) rfl (hb hby at_95) rfl (flt hc95).2.2.2 (by decide) (by decide) ?_
  exact kt
set_option maxRecDepth 65536 in
set_option maxHeartbeats 40000000 in
theorem sgB3 {p : Program} {l : Launch} {e : Env} {s : State} {m : MethodId} {args : Array Value} {below : List Frame} {meth : Method} {c : Code} {T0 : State} {locs : List Loc} {Z : State} {a0 : Array Value} {h0 : Heap} {n0 : Nat} (i0 : Int32) (i1 : Int32) (i2 : Int32) (i3 : Int32) (i4 : Int32) (i6 : Int32) (i7 : Int32)
    (X0 : Stand p l e room_1 s m args below meth c T0 locs 0 0) (hx : p.tables.exec = Jvm.exec) (hZ : Z.Warmed39 s.vm) (hw : ∀ d ∈ tables_1, d.before a0 Z = true) (hby : c.code = code) (hml : c.maxLocals = 15) (hown : s.vm.findClass "com/example/restless_reasoner/restlessreasoner/engine/tableau/PremisesIsInequalityPinLaw" = some m.cls) (e0 : T0.heap = h0) (Z0 : n0 ≤ h0.size) (N0 : Fr n0 locs) (hc49 : (0 : Int32) < (3 : Int32)) (hc60 : (1 : Int32) < (3 : Int32)) (hc72 : (2 : Int32) < (3 : Int32)) (hc83 : ¬ ((3 : Int32) < (3 : Int32))) (hc95 : ¬ ((4 : Int32) < (3 : Int32))) :
    ∃ (T' : State) (h' : Heap) (locs' : List Loc) (b6 : Addr) (k6 : ClassId), Stand p l e room_1 s m args below meth c T' locs' 1 5 ∧ T'.heap = h' ∧ Fr n0 locs' ∧ Keep h0 h' [] ∧ n0 ≤ b6 ∧ h0.size ≤ b6 ∧ Arv Z h' b6 k6 .int (3 : Int32) [(.int i1), (.int i7), (.int i3)] (.int (0 : Int32)) ∧
      ∀ target, Steps p.tables e below (T'.setTop (mkF m 105 #[.val (.int i0), .val (.int i1), .val (.int i2), .val (.int i3), .val (.int i4), .val (.int (3 : Int32)), .val (.int i6), .val (.int i7), .val (.ref b6), .unset, .unset, .unset, .unset, .unset, .unset] [])) target → Steps p.tables e below (T0.setTop (mkF m 41 #[.val (.int i0), .val (.int i1), .val (.int i2), .val (.int i3), .val (.int i4), .val (.int (3 : Int32)), .val (.int i6), .val (.int i7), .unset, .unset, .unset, .unset, .unset, .unset, .unset] [])) target := by
  obtain ⟨T6, h6, k6, X6, e6, E6, A6, st6⟩ := newP X0 hx hZ (hw _ (List.mem_of_getElem? (i := 1) rfl)) e0 (g := (mkF m 43 #[.val (.int i0), .val (.int i1), .val (.int i2), .val (.int i3), .val (.int i4), .val (.int (3 : Int32)), .val (.int i6), .val (.int i7), .unset, .unset, .unset, .unset, .unset, .unset, .unset] [(.int (3 : Int32))])) rfl (hb hby at_43) rfl (by decide) (cap := 5) (by decide) (by decide) (by decide) (by decide)
  obtain ⟨b6, g6⟩ : ∃ z, z = h0.size := ⟨_, rfl⟩
  rw [← g6] at A6 st6
  have V_b6 : Arv Z h6 b6 k6 .int (3 : Int32) [(.int (0 : Int32)), (.int (0 : Int32)), (.int (0 : Int32))] (.int (0 : Int32)) := (Arv.new A6 (by decide)).pad (pad_rep [] (.int (0 : Int32)) 3)
  have g_b6 : n0 ≤ b6 := Nat.le_trans Z0 (Nat.le_of_eq g6.symm)
  have sz_b6 : h0.size ≤ b6 := (Nat.le_trans (Keep.refl h0 []).1 (Nat.le_of_eq g6.symm))
  have K6 : Keep h0 h6 [] := (Keep.refl h0 []).ext E6
  obtain ⟨cl_b6_56, Ar_b6, q_b6, S_b6, N_b6, H_b6, G_b6⟩ := V_b6
  have hin56 : ¬ ((0 : Int32) < 0 ∨ cl_b6_56.slots.size ≤ ((0 : Int32)).toNatClampNeg) := inb_of S_b6 ⟨by decide, by decide⟩
  obtain ⟨T7, h7, X7, e7, W7, st7⟩ := stI X6 hx hZ e6 Ar_b6 (j := (0 : Int32)) hin56 (g := (mkF m 56 #[.val (.int i0), .val (.int i1), .val (.int i2), .val (.int i3), .val (.int i4), .val (.int (3 : Int32)), .val (.int i6), .val (.int i7), .val (.ref b6), .unset, .unset, .unset, .unset, .unset, .unset] [(.int i1), (.int (0 : Int32)), (.ref b6)])) rfl rfl (hb hby at_56)
  have V_b6_7 := Arv.set Ar_b6 q_b6 S_b6 N_b6 H_b6 G_b6 rfl W7 0 rfl (Nat.le_of_ble_eq_true rfl)
  have K7 : Keep h0 h7 [] := K6.wr W7 (Or.inr sz_b6)
  have N7 := Fr.snoc X7 N0 g_b6
  obtain ⟨cl_b6_68, Ar_b6, q_b6, S_b6, N_b6, H_b6, G_b6⟩ := V_b6_7
  have hin68 : ¬ ((1 : Int32) < 0 ∨ cl_b6_68.slots.size ≤ ((1 : Int32)).toNatClampNeg) := inb_of S_b6 ⟨by decide, by decide⟩
  obtain ⟨T8, h8, X8, e8, W8, st8⟩ := stI X7 hx hZ e7 Ar_b6 (j := (1 : Int32)) hin68 (g := (mkF m 68 #[.val (.int i0), .val (.int i1), .val (.int i2), .val (.int i3), .val (.int i4), .val (.int (3 : Int32)), .val (.int i6), .val (.int i7), .val (.ref b6), .unset, .unset, .unset, .unset, .unset, .unset] [(.int i7), (.int (1 : Int32)), (.ref b6)])) rfl rfl (hb hby at_68)
  have V_b6_8 := Arv.set Ar_b6 q_b6 S_b6 N_b6 H_b6 G_b6 rfl W8 1 rfl (Nat.le_of_ble_eq_true rfl)
  have K8 : Keep h0 h8 [] := K7.wr W8 (Or.inr sz_b6)
  have N8 := Fr.snoc X8 N7 g_b6
  obtain ⟨cl_b6_79, Ar_b6, q_b6, S_b6, N_b6, H_b6, G_b6⟩ := V_b6_8
  have hin79 : ¬ ((2 : Int32) < 0 ∨ cl_b6_79.slots.size ≤ ((2 : Int32)).toNatClampNeg) := inb_of S_b6 ⟨by decide, by decide⟩
  obtain ⟨T9, h9, X9, e9, W9, st9⟩ := stI X8 hx hZ e8 Ar_b6 (j := (2 : Int32)) hin79 (g := (mkF m 79 #[.val (.int i0), .val (.int i1), .val (.int i2), .val (.int i3), .val (.int i4), .val (.int (3 : Int32)), .val (.int i6), .val (.int i7), .val (.ref b6), .unset, .unset, .unset, .unset, .unset, .unset] [(.int i3), (.int (2 : Int32)), (.ref b6)])) rfl rfl (hb hby at_79)
  have V_b6_9 := Arv.set Ar_b6 q_b6 S_b6 N_b6 H_b6 G_b6 rfl W9 2 rfl (Nat.le_of_ble_eq_true rfl)
  have K9 : Keep h0 h9 [] := K8.wr W9 (Or.inr sz_b6)
  have N9 := Fr.snoc X9 N8 g_b6
  refine ⟨T9, _, _, b6, k6, X9, e9, N9, K9, g_b6, sz_b6, V_b6_9, fun target kt => ?_⟩
  show Steps p.tables e below (T0.setTop (mkF m 41 #[.val (.int i0), .val (.int i1), .val (.int i2), .val (.int i3), .val (.int i4), .val (.int (3 : Int32)), .val (.int i6), .val (.int i7), .unset, .unset, .unset, .unset, .unset, .unset, .unset] [])) _
  refine XS.iload X0.here hx rfl (hb hby at_41) rfl ?_
  show Steps p.tables e below (T0.setTop (mkF m 43 #[.val (.int i0), .val (.int i1), .val (.int i2), .val (.int i3), .val (.int i4), .val (.int (3 : Int32)), .val (.int i6), .val (.int i7), .unset, .unset, .unset, .unset, .unset, .unset, .unset] [(.int (3 : Int32))])) _
  refine st6 _ ?_
  show Steps p.tables e below (T6.setTop (mkF m 45 #[.val (.int i0), .val (.int i1), .val (.int i2), .val (.int i3), .val (.int i4), .val (.int (3 : Int32)), .val (.int i6), .val (.int i7), .unset, .unset, .unset, .unset, .unset, .unset, .unset] [(.ref b6)])) _
  refine XS.astore X6.here hx rfl (hb hby at_45) rfl rfl (l' := #[.val (.int i0), .val (.int i1), .val (.int i2), .val (.int i3), .val (.int i4), .val (.int (3 : Int32)), .val (.int i6), .val (.int i7), .val (.ref b6), .unset, .unset, .unset, .unset, .unset, .unset]) rfl ?_
  show Steps p.tables e below (T6.setTop (mkF m 47 #[.val (.int i0), .val (.int i1), .val (.int i2), .val (.int i3), .val (.int i4), .val (.int (3 : Int32)), .val (.int i6), .val (.int i7), .val (.ref b6), .unset, .unset, .unset, .unset, .unset, .unset] [])) _
  refine XS.iload X6.here hx rfl (hb hby at_47) rfl ?_
  show Steps p.tables e below (T6.setTop (mkF m 49 #[.val (.int i0), .val (.int i1), .val (.int i2), .val (.int i3), .val (.int i4), .val (.int (3 : Int32)), .val (.int i6), .val (.int i7), .val (.ref b6), .unset, .unset, .unset, .unset, .unset, .unset] [(.int (3 : Int32))])) _
  refine XS.ifNo X6.here hx rfl (hb hby at_49) rfl ((if0 _ _).trans (tlt hc49).2.2.2) ?_
  show Steps p.tables e below (T6.setTop (mkF m 52 #[.val (.int i0), .val (.int i1), .val (.int i2), .val (.int i3), .val (.int i4), .val (.int (3 : Int32)), .val (.int i6), .val (.int i7), .val (.ref b6), .unset, .unset, .unset, .unset, .unset, .unset] [])) _
  refine XS.aload X6.here hx rfl (hb hby at_52) rfl rfl ?_
  show Steps p.tables e below (T6.setTop (mkF m 54 #[.val (.int i0), .val (.int i1), .val (.int i2), .val (.int i3), .val (.int i4), .val (.int (3 : Int32)), .val (.int i6), .val (.int i7), .val (.ref b6), .unset, .unset, .unset, .unset, .unset, .unset] [(.ref b6)])) _
  refine XS.iconst X6.here hx rfl (hb hby at_54) ?_
  show Steps p.tables e below (T6.setTop (mkF m 55 #[.val (.int i0), .val (.int i1), .val (.int i2), .val (.int i3), .val (.int i4), .val (.int (3 : Int32)), .val (.int i6), .val (.int i7), .val (.ref b6), .unset, .unset, .unset, .unset, .unset, .unset] [(.int (0 : Int32)), (.ref b6)])) _
  refine XS.iloadN X6.here hx rfl (hb hby at_55) rfl ?_
  show Steps p.tables e below (T6.setTop (mkF m 56 #[.val (.int i0), .val (.int i1), .val (.int i2), .val (.int i3), .val (.int i4), .val (.int (3 : Int32)), .val (.int i6), .val (.int i7), .val (.ref b6), .unset, .unset, .unset, .unset, .unset, .unset] [(.int i1), (.int (0 : Int32)), (.ref b6)])) _
  refine st7 _ ?_
  show Steps p.tables e below (T7.setTop (mkF m 57 #[.val (.int i0), .val (.int i1), .val (.int i2), .val (.int i3), .val (.int i4), .val (.int (3 : Int32)), .val (.int i6), .val (.int i7), .val (.ref b6), .unset, .unset, .unset, .unset, .unset, .unset] [])) _
  refine XS.iload X7.here hx rfl (hb hby at_57) rfl ?_
  show Steps p.tables e below (T7.setTop (mkF m 59 #[.val (.int i0), .val (.int i1), .val (.int i2), .val (.int i3), .val (.int i4), .val (.int (3 : Int32)), .val (.int i6), .val (.int i7), .val (.ref b6), .unset, .unset, .unset, .unset, .unset, .unset] [(.int (3 : Int32))])) _
  refine XS.iconst X7.here hx rfl (hb hby at_59) ?_
  show Steps p.tables e below (T7.setTop (mkF m 60 #[.val (.int i0), .val (.int i1), .val (.int i2), .val (.int i3), .val (.int i4), .val (.int (3 : Int32)), .val (.int i6), .val (.int i7), .val (.ref b6), .unset, .unset, .unset, .unset, .unset, .unset] [(.int (1 : Int32)), (.int (3 : Int32))])) _
  refine XS.icmpNo X7.here hx rfl (hb hby at_60) rfl (tlt hc60).2.2.2 ?_
  show Steps p.tables e below (T7.setTop (mkF m 63 #[.val (.int i0), .val (.int i1), .val (.int i2), .val (.int i3), .val (.int i4), .val (.int (3 : Int32)), .val (.int i6), .val (.int i7), .val (.ref b6), .unset, .unset, .unset, .unset, .unset, .unset] [])) _
  refine XS.aload X7.here hx rfl (hb hby at_63) rfl rfl ?_
  show Steps p.tables e below (T7.setTop (mkF m 65 #[.val (.int i0), .val (.int i1), .val (.int i2), .val (.int i3), .val (.int i4), .val (.int (3 : Int32)), .val (.int i6), .val (.int i7), .val (.ref b6), .unset, .unset, .unset, .unset, .unset, .unset] [(.ref b6)])) _
  refine XS.iconst X7.here hx rfl (hb hby at_65) ?_
  show Steps p.tables e below (T7.setTop (mkF m 66 #[.val (.int i0), .val (.int i1), .val (.int i2), .val (.int i3), .val (.int i4), .val (.int (3 : Int32)), .val (.int i6), .val (.int i7), .val (.ref b6), .unset, .unset, .unset, .unset, .unset, .unset] [(.int (1 : Int32)), (.ref b6)])) _
  refine XS.iload X7.here hx rfl (hb hby at_66) rfl ?_
  show Steps p.tables e below (T7.setTop (mkF m 68 #[.val (.int i0), .val (.int i1), .val (.int i2), .val (.int i3), .val (.int i4), .val (.int (3 : Int32)), .val (.int i6), .val (.int i7), .val (.ref b6), .unset, .unset, .unset, .unset, .unset, .unset] [(.int i7), (.int (1 : Int32)), (.ref b6)])) _
  refine st8 _ ?_
  show Steps p.tables e below (T8.setTop (mkF m 69 #[.val (.int i0), .val (.int i1), .val (.int i2), .val (.int i3), .val (.int i4), .val (.int (3 : Int32)), .val (.int i6), .val (.int i7), .val (.ref b6), .unset, .unset, .unset, .unset, .unset, .unset] [])) _
  refine XS.iload X8.here hx rfl (hb hby at_69) rfl ?_
  show Steps p.tables e below (T8.setTop (mkF m 71 #[.val (.int i0), .val (.int i1), .val (.int i2), .val (.int i3), .val (.int i4), .val (.int (3 : Int32)), .val (.int i6), .val (.int i7), .val (.ref b6), .unset, .unset, .unset, .unset, .unset, .unset] [(.int (3 : Int32))])) _
  refine XS.iconst X8.here hx rfl (hb hby at_71) ?_
  show Steps p.tables e below (T8.setTop (mkF m 72 #[.val (.int i0), .val (.int i1), .val (.int i2), .val (.int i3), .val (.int i4), .val (.int (3 : Int32)), .val (.int i6), .val (.int i7), .val (.ref b6), .unset, .unset, .unset, .unset, .unset, .unset] [(.int (2 : Int32)), (.int (3 : Int32))])) _
  refine XS.icmpNo X8.here hx rfl (hb hby at_72) rfl (tlt hc72).2.2.2 ?_
  show Steps p.tables e below (T8.setTop (mkF m 75 #[.val (.int i0), .val (.int i1), .val (.int i2), .val (.int i3), .val (.int i4), .val (.int (3 : Int32)), .val (.int i6), .val (.int i7), .val (.ref b6), .unset, .unset, .unset, .unset, .unset, .unset] [])) _
  refine XS.aload X8.here hx rfl (hb hby at_75) rfl rfl ?_
  show Steps p.tables e below (T8.setTop (mkF m 77 #[.val (.int i0), .val (.int i1), .val (.int i2), .val (.int i3), .val (.int i4), .val (.int (3 : Int32)), .val (.int i6), .val (.int i7), .val (.ref b6), .unset, .unset, .unset, .unset, .unset, .unset] [(.ref b6)])) _
  refine XS.iconst X8.here hx rfl (hb hby at_77) ?_
  show Steps p.tables e below (T8.setTop (mkF m 78 #[.val (.int i0), .val (.int i1), .val (.int i2), .val (.int i3), .val (.int i4), .val (.int (3 : Int32)), .val (.int i6), .val (.int i7), .val (.ref b6), .unset, .unset, .unset, .unset, .unset, .unset] [(.int (2 : Int32)), (.ref b6)])) _
  refine XS.iloadN X8.here hx rfl (hb hby at_78) rfl ?_
  show Steps p.tables e below (T8.setTop (mkF m 79 #[.val (.int i0), .val (.int i1), .val (.int i2), .val (.int i3), .val (.int i4), .val (.int (3 : Int32)), .val (.int i6), .val (.int i7), .val (.ref b6), .unset, .unset, .unset, .unset, .unset, .unset] [(.int i3), (.int (2 : Int32)), (.ref b6)])) _
  refine st9 _ ?_
  show Steps p.tables e below (T9.setTop (mkF m 80 #[.val (.int i0), .val (.int i1), .val (.int i2), .val (.int i3), .val (.int i4), .val (.int (3 : Int32)), .val (.int i6), .val (.int i7), .val (.ref b6), .unset, .unset, .unset, .unset, .unset, .unset] [])) _
  refine XS.iload X9.here hx rfl (hb hby at_80) rfl ?_
  show Steps p.tables e below (T9.setTop (mkF m 82 #[.val (.int i0), .val (.int i1), .val (.int i2), .val (.int i3), .val (.int i4), .val (.int (3 : Int32)), .val (.int i6), .val (.int i7), .val (.ref b6), .unset, .unset, .unset, .unset, .unset, .unset] [(.int (3 : Int32))])) _
  refine XS.iconst X9.here hx rfl (hb hby at_82) ?_
  show Steps p.tables e below (T9.setTop (mkF m 83 #[.val (.int i0), .val (.int i1), .val (.int i2), .val (.int i3), .val (.int i4), .val (.int (3 : Int32)), .val (.int i6), .val (.int i7), .val (.ref b6), .unset, .unset, .unset, .unset, .unset, .unset] [(.int (3 : Int32)), (.int (3 : Int32))])) _
  refine XS.icmpYes X9.here hx rfl (pc0 := 83) (pc' := 92) rfl (hb hby at_83) rfl (flt hc83).2.2.2 (by decide) (by decide) ?_
  show Steps p.tables e below (T9.setTop (mkF m 92 #[.val (.int i0), .val (.int i1), .val (.int i2), .val (.int i3), .val (.int i4), .val (.int (3 : Int32)), .val (.int i6), .val (.int i7), .val (.ref b6), .unset, .unset, .unset, .unset, .unset, .unset] [])) _
  refine XS.iload X9.here hx rfl (hb hby at_92) rfl ?_
  show Steps p.tables e below (T9.setTop (mkF m 94 #[.val (.int i0), .val (.int i1), .val (.int i2), .val (.int i3), .val (.int i4), .val (.int (3 : Int32)), .val (.int i6), .val (.int i7), .val (.ref b6), .unset, .unset, .unset, .unset, .unset, .unset] [(.int (3 : Int32))])) _
  refine XS.iconst X9.here hx rfl (hb hby at_94) ?_
  show Steps p.tables e below (T9.setTop (mkF m 95 #[.val (.int i0), .val (.int i1), .val (.int i2), .val (.int i3), .val (.int i4), .val (.int (3 : Int32)), .val (.int i6), .val (.int i7), .val (.ref b6), .unset, .unset, .unset, .unset, .unset, .unset] [(.int (4 : Int32)), (.int (3 : Int32))])) _
  refine XS.icmpYes X9.here hx rfl (pc0 := 95) (pc' := 105) rfl (hb hby at_95) rfl (flt hc95).2.2.2 (by decide) (by decide) ?_
  exact kt
set_option maxRecDepth 65536 in
set_option maxHeartbeats 40000000 in
theorem sgB4 {p : Program} {l : Launch} {e : Env} {s : State} {m : MethodId} {args : Array Value} {below : List Frame} {meth : Method} {c : Code} {T0 : State} {locs : List Loc} {Z : State} {a0 : Array Value} {h0 : Heap} {n0 : Nat} (i0 : Int32) (i1 : Int32) (i2 : Int32) (i3 : Int32) (i4 : Int32) (i6 : Int32) (i7 : Int32)
    (X0 : Stand p l e room_1 s m args below meth c T0 locs 0 0) (hx : p.tables.exec = Jvm.exec) (hZ : Z.Warmed39 s.vm) (hw : ∀ d ∈ tables_1, d.before a0 Z = true) (hby : c.code = code) (hml : c.maxLocals = 15) (hown : s.vm.findClass "com/example/restless_reasoner/restlessreasoner/engine/tableau/PremisesIsInequalityPinLaw" = some m.cls) (e0 : T0.heap = h0) (Z0 : n0 ≤ h0.size) (N0 : Fr n0 locs) (hc49 : (0 : Int32) < (4 : Int32)) (hc60 : (1 : Int32) < (4 : Int32)) (hc72 : (2 : Int32) < (4 : Int32)) (hc83 : (3 : Int32) < (4 : Int32)) (hc95 : ¬ ((4 : Int32) < (4 : Int32))) :
    ∃ (T' : State) (h' : Heap) (locs' : List Loc) (b6 : Addr) (k6 : ClassId), Stand p l e room_1 s m args below meth c T' locs' 1 5 ∧ T'.heap = h' ∧ Fr n0 locs' ∧ Keep h0 h' [] ∧ n0 ≤ b6 ∧ h0.size ≤ b6 ∧ Arv Z h' b6 k6 .int (4 : Int32) [(.int i1), (.int i7), (.int i3), (.int i4)] (.int (0 : Int32)) ∧
      ∀ target, Steps p.tables e below (T'.setTop (mkF m 105 #[.val (.int i0), .val (.int i1), .val (.int i2), .val (.int i3), .val (.int i4), .val (.int (4 : Int32)), .val (.int i6), .val (.int i7), .val (.ref b6), .unset, .unset, .unset, .unset, .unset, .unset] [])) target → Steps p.tables e below (T0.setTop (mkF m 41 #[.val (.int i0), .val (.int i1), .val (.int i2), .val (.int i3), .val (.int i4), .val (.int (4 : Int32)), .val (.int i6), .val (.int i7), .unset, .unset, .unset, .unset, .unset, .unset, .unset] [])) target := by
  obtain ⟨T6, h6, k6, X6, e6, E6, A6, st6⟩ := newP X0 hx hZ (hw _ (List.mem_of_getElem? (i := 1) rfl)) e0 (g := (mkF m 43 #[.val (.int i0), .val (.int i1), .val (.int i2), .val (.int i3), .val (.int i4), .val (.int (4 : Int32)), .val (.int i6), .val (.int i7), .unset, .unset, .unset, .unset, .unset, .unset, .unset] [(.int (4 : Int32))])) rfl (hb hby at_43) rfl (by decide) (cap := 5) (by decide) (by decide) (by decide) (by decide)
  obtain ⟨b6, g6⟩ : ∃ z, z = h0.size := ⟨_, rfl⟩
  rw [← g6] at A6 st6
  have V_b6 : Arv Z h6 b6 k6 .int (4 : Int32) [(.int (0 : Int32)), (.int (0 : Int32)), (.int (0 : Int32)), (.int (0 : Int32))] (.int (0 : Int32)) := (Arv.new A6 (by decide)).pad (pad_rep [] (.int (0 : Int32)) 4)
  have g_b6 : n0 ≤ b6 := Nat.le_trans Z0 (Nat.le_of_eq g6.symm)
  have sz_b6 : h0.size ≤ b6 := (Nat.le_trans (Keep.refl h0 []).1 (Nat.le_of_eq g6.symm))
  have K6 : Keep h0 h6 [] := (Keep.refl h0 []).ext E6
  obtain ⟨cl_b6_56, Ar_b6, q_b6, S_b6, N_b6, H_b6, G_b6⟩ := V_b6
  have hin56 : ¬ ((0 : Int32) < 0 ∨ cl_b6_56.slots.size ≤ ((0 : Int32)).toNatClampNeg) := inb_of S_b6 ⟨by decide, by decide⟩
  obtain ⟨T7, h7, X7, e7, W7, st7⟩ := stI X6 hx hZ e6 Ar_b6 (j := (0 : Int32)) hin56 (g := (mkF m 56 #[.val (.int i0), .val (.int i1), .val (.int i2), .val (.int i3), .val (.int i4), .val (.int (4 : Int32)), .val (.int i6), .val (.int i7), .val (.ref b6), .unset, .unset, .unset, .unset, .unset, .unset] [(.int i1), (.int (0 : Int32)), (.ref b6)])) rfl rfl (hb hby at_56)
  have V_b6_7 := Arv.set Ar_b6 q_b6 S_b6 N_b6 H_b6 G_b6 rfl W7 0 rfl (Nat.le_of_ble_eq_true rfl)
  have K7 : Keep h0 h7 [] := K6.wr W7 (Or.inr sz_b6)
  have N7 := Fr.snoc X7 N0 g_b6
  obtain ⟨cl_b6_68, Ar_b6, q_b6, S_b6, N_b6, H_b6, G_b6⟩ := V_b6_7
  have hin68 : ¬ ((1 : Int32) < 0 ∨ cl_b6_68.slots.size ≤ ((1 : Int32)).toNatClampNeg) := inb_of S_b6 ⟨by decide, by decide⟩
  obtain ⟨T8, h8, X8, e8, W8, st8⟩ := stI X7 hx hZ e7 Ar_b6 (j := (1 : Int32)) hin68 (g := (mkF m 68 #[.val (.int i0), .val (.int i1), .val (.int i2), .val (.int i3), .val (.int i4), .val (.int (4 : Int32)), .val (.int i6), .val (.int i7), .val (.ref b6), .unset, .unset, .unset, .unset, .unset, .unset] [(.int i7), (.int (1 : Int32)), (.ref b6)])) rfl rfl (hb hby at_68)
  have V_b6_8 := Arv.set Ar_b6 q_b6 S_b6 N_b6 H_b6 G_b6 rfl W8 1 rfl (Nat.le_of_ble_eq_true rfl)
  have K8 : Keep h0 h8 [] := K7.wr W8 (Or.inr sz_b6)
  have N8 := Fr.snoc X8 N7 g_b6
  obtain ⟨cl_b6_79, Ar_b6, q_b6, S_b6, N_b6, H_b6, G_b6⟩ := V_b6_8
  have hin79 : ¬ ((2 : Int32) < 0 ∨ cl_b6_79.slots.size ≤ ((2 : Int32)).toNatClampNeg) := inb_of S_b6 ⟨by decide, by decide⟩
  obtain ⟨T9, h9, X9, e9, W9, st9⟩ := stI X8 hx hZ e8 Ar_b6 (j := (2 : Int32)) hin79 (g := (mkF m 79 #[.val (.int i0), .val (.int i1), .val (.int i2), .val (.int i3), .val (.int i4), .val (.int (4 : Int32)), .val (.int i6), .val (.int i7), .val (.ref b6), .unset, .unset, .unset, .unset, .unset, .unset] [(.int i3), (.int (2 : Int32)), (.ref b6)])) rfl rfl (hb hby at_79)
  have V_b6_9 := Arv.set Ar_b6 q_b6 S_b6 N_b6 H_b6 G_b6 rfl W9 2 rfl (Nat.le_of_ble_eq_true rfl)
  have K9 : Keep h0 h9 [] := K8.wr W9 (Or.inr sz_b6)
  have N9 := Fr.snoc X9 N8 g_b6
  obtain ⟨cl_b6_91, Ar_b6, q_b6, S_b6, N_b6, H_b6, G_b6⟩ := V_b6_9
  have hin91 : ¬ ((3 : Int32) < 0 ∨ cl_b6_91.slots.size ≤ ((3 : Int32)).toNatClampNeg) := inb_of S_b6 ⟨by decide, by decide⟩
  obtain ⟨T10, h10, X10, e10, W10, st10⟩ := stI X9 hx hZ e9 Ar_b6 (j := (3 : Int32)) hin91 (g := (mkF m 91 #[.val (.int i0), .val (.int i1), .val (.int i2), .val (.int i3), .val (.int i4), .val (.int (4 : Int32)), .val (.int i6), .val (.int i7), .val (.ref b6), .unset, .unset, .unset, .unset, .unset, .unset] [(.int i4), (.int (3 : Int32)), (.ref b6)])) rfl rfl (hb hby at_91)
  have V_b6_10 := Arv.set Ar_b6 q_b6 S_b6 N_b6 H_b6 G_b6 rfl W10 3 rfl (Nat.le_of_ble_eq_true rfl)
  have K10 : Keep h0 h10 [] := K9.wr W10 (Or.inr sz_b6)
  have N10 := Fr.snoc X10 N9 g_b6
  refine ⟨T10, _, _, b6, k6, X10, e10, N10, K10, g_b6, sz_b6, V_b6_10, fun target kt => ?_⟩
  show Steps p.tables e below (T0.setTop (mkF m 41 #[.val (.int i0), .val (.int i1), .val (.int i2), .val (.int i3), .val (.int i4), .val (.int (4 : Int32)), .val (.int i6), .val (.int i7), .unset, .unset, .unset, .unset, .unset, .unset, .unset] [])) _
  refine XS.iload X0.here hx rfl (hb hby at_41) rfl ?_
  show Steps p.tables e below (T0.setTop (mkF m 43 #[.val (.int i0), .val (.int i1), .val (.int i2), .val (.int i3), .val (.int i4), .val (.int (4 : Int32)), .val (.int i6), .val (.int i7), .unset, .unset, .unset, .unset, .unset, .unset, .unset] [(.int (4 : Int32))])) _
  refine st6 _ ?_
  show Steps p.tables e below (T6.setTop (mkF m 45 #[.val (.int i0), .val (.int i1), .val (.int i2), .val (.int i3), .val (.int i4), .val (.int (4 : Int32)), .val (.int i6), .val (.int i7), .unset, .unset, .unset, .unset, .unset, .unset, .unset] [(.ref b6)])) _
  refine XS.astore X6.here hx rfl (hb hby at_45) rfl rfl (l' := #[.val (.int i0), .val (.int i1), .val (.int i2), .val (.int i3), .val (.int i4), .val (.int (4 : Int32)), .val (.int i6), .val (.int i7), .val (.ref b6), .unset, .unset, .unset, .unset, .unset, .unset]) rfl ?_
  show Steps p.tables e below (T6.setTop (mkF m 47 #[.val (.int i0), .val (.int i1), .val (.int i2), .val (.int i3), .val (.int i4), .val (.int (4 : Int32)), .val (.int i6), .val (.int i7), .val (.ref b6), .unset, .unset, .unset, .unset, .unset, .unset] [])) _
  refine XS.iload X6.here hx rfl (hb hby at_47) rfl ?_
  show Steps p.tables e below (T6.setTop (mkF m 49 #[.val (.int i0), .val (.int i1), .val (.int i2), .val (.int i3), .val (.int i4), .val (.int (4 : Int32)), .val (.int i6), .val (.int i7), .val (.ref b6), .unset, .unset, .unset, .unset, .unset, .unset] [(.int (4 : Int32))])) _
  refine XS.ifNo X6.here hx rfl (hb hby at_49) rfl ((if0 _ _).trans (tlt hc49).2.2.2) ?_
  show Steps p.tables e below (T6.setTop (mkF m 52 #[.val (.int i0), .val (.int i1), .val (.int i2), .val (.int i3), .val (.int i4), .val (.int (4 : Int32)), .val (.int i6), .val (.int i7), .val (.ref b6), .unset, .unset, .unset, .unset, .unset, .unset] [])) _
  refine XS.aload X6.here hx rfl (hb hby at_52) rfl rfl ?_
  show Steps p.tables e below (T6.setTop (mkF m 54 #[.val (.int i0), .val (.int i1), .val (.int i2), .val (.int i3), .val (.int i4), .val (.int (4 : Int32)), .val (.int i6), .val (.int i7), .val (.ref b6), .unset, .unset, .unset, .unset, .unset, .unset] [(.ref b6)])) _
  refine XS.iconst X6.here hx rfl (hb hby at_54) ?_
  show Steps p.tables e below (T6.setTop (mkF m 55 #[.val (.int i0), .val (.int i1), .val (.int i2), .val (.int i3), .val (.int i4), .val (.int (4 : Int32)), .val (.int i6), .val (.int i7), .val (.ref b6), .unset, .unset, .unset, .unset, .unset, .unset] [(.int (0 : Int32)), (.ref b6)])) _
  refine XS.iloadN X6.here hx rfl (hb hby at_55) rfl ?_
  show Steps p.tables e below (T6.setTop (mkF m 56 #[.val (.int i0), .val (.int i1), .val (.int i2), .val (.int i3), .val (.int i4), .val (.int (4 : Int32)), .val (.int i6), .val (.int i7), .val (.ref b6), .unset, .unset, .unset, .unset, .unset, .unset] [(.int i1), (.int (0 : Int32)), (.ref b6)])) _
  refine st7 _ ?_
  show Steps p.tables e below (T7.setTop (mkF m 57 #[.val (.int i0), .val (.int i1), .val (.int i2), .val (.int i3), .val (.int i4), .val (.int (4 : Int32)), .val (.int i6), .val (.int i7), .val (.ref b6), .unset, .unset, .unset, .unset, .unset, .unset] [])) _
  refine XS.iload X7.here hx rfl (hb hby at_57) rfl ?_
  show Steps p.tables e below (T7.setTop (mkF m 59 #[.val (.int i0), .val (.int i1), .val (.int i2), .val (.int i3), .val (.int i4), .val (.int (4 : Int32)), .val (.int i6), .val (.int i7), .val (.ref b6), .unset, .unset, .unset, .unset, .unset, .unset] [(.int (4 : Int32))])) _
  refine XS.iconst X7.here hx rfl (hb hby at_59) ?_
  show Steps p.tables e below (T7.setTop (mkF m 60 #[.val (.int i0), .val (.int i1), .val (.int i2), .val (.int i3), .val (.int i4), .val (.int (4 : Int32)), .val (.int i6), .val (.int i7), .val (.ref b6), .unset, .unset, .unset, .unset, .unset, .unset] [(.int (1 : Int32)), (.int (4 : Int32))])) _
  refine XS.icmpNo X7.here hx rfl (hb hby at_60) rfl (tlt hc60).2.2.2 ?_
  show Steps p.tables e below (T7.setTop (mkF m 63 #[.val (.int i0), .val (.int i1), .val (.int i2), .val (.int i3), .val (.int i4), .val (.int (4 : Int32)), .val (.int i6), .val (.int i7), .val (.ref b6), .unset, .unset, .unset, .unset, .unset, .unset] [])) _
  refine XS.aload X7.here hx rfl (hb hby at_63) rfl rfl ?_
  show Steps p.tables e below (T7.setTop (mkF m 65 #[.val (.int i0), .val (.int i1), .val (.int i2), .val (.int i3), .val (.int i4), .val (.int (4 : Int32)), .val (.int i6), .val (.int i7), .val (.ref b6), .unset, .unset, .unset, .unset, .unset, .unset] [(.ref b6)])) _
  refine XS.iconst X7.here hx rfl (hb hby at_65) ?_
  show Steps p.tables e below (T7.setTop (mkF m 66 #[.val (.int i0), .val (.int i1), .val (.int i2), .val (.int i3), .val (.int i4), .val (.int (4 : Int32)), .val (.int i6), .val (.int i7), .val (.ref b6), .unset, .unset, .unset, .unset, .unset, .unset] [(.int (1 : Int32)), (.ref b6)])) _
  refine XS.iload X7.here hx rfl (hb hby at_66) rfl ?_
  show Steps p.tables e below (T7.setTop (mkF m 68 #[.val (.int i0), .val (.int i1), .val (.int i2), .val (.int i3), .val (.int i4), .val (.int (4 : Int32)), .val (.int i6), .val (.int i7), .val (.ref b6), .unset, .unset, .unset, .unset, .unset, .unset] [(.int i7), (.int (1 : Int32)), (.ref b6)])) _
  refine st8 _ ?_
  show Steps p.tables e below (T8.setTop (mkF m 69 #[.val (.int i0), .val (.int i1), .val (.int i2), .val (.int i3), .val (.int i4), .val (.int (4 : Int32)), .val (.int i6), .val (.int i7), .val (.ref b6), .unset, .unset, .unset, .unset, .unset, .unset] [])) _
  refine XS.iload X8.here hx rfl (hb hby at_69) rfl ?_
  show Steps p.tables e below (T8.setTop (mkF m 71 #[.val (.int i0), .val (.int i1), .val (.int i2), .val (.int i3), .val (.int i4), .val (.int (4 : Int32)), .val (.int i6), .val (.int i7), .val (.ref b6), .unset, .unset, .unset, .unset, .unset, .unset] [(.int (4 : Int32))])) _
  refine XS.iconst X8.here hx rfl (hb hby at_71) ?_
  show Steps p.tables e below (T8.setTop (mkF m 72 #[.val (.int i0), .val (.int i1), .val (.int i2), .val (.int i3), .val (.int i4), .val (.int (4 : Int32)), .val (.int i6), .val (.int i7), .val (.ref b6), .unset, .unset, .unset, .unset, .unset, .unset] [(.int (2 : Int32)), (.int (4 : Int32))])) _
  refine XS.icmpNo X8.here hx rfl (hb hby at_72) rfl (tlt hc72).2.2.2 ?_
  show Steps p.tables e below (T8.setTop (mkF m 75 #[.val (.int i0), .val (.int i1), .val (.int i2), .val (.int i3), .val (.int i4), .val (.int (4 : Int32)), .val (.int i6), .val (.int i7), .val (.ref b6), .unset, .unset, .unset, .unset, .unset, .unset] [])) _
  refine XS.aload X8.here hx rfl (hb hby at_75) rfl rfl ?_
  show Steps p.tables e below (T8.setTop (mkF m 77 #[.val (.int i0), .val (.int i1), .val (.int i2), .val (.int i3), .val (.int i4), .val (.int (4 : Int32)), .val (.int i6), .val (.int i7), .val (.ref b6), .unset, .unset, .unset, .unset, .unset, .unset] [(.ref b6)])) _
  refine XS.iconst X8.here hx rfl (hb hby at_77) ?_
  show Steps p.tables e below (T8.setTop (mkF m 78 #[.val (.int i0), .val (.int i1), .val (.int i2), .val (.int i3), .val (.int i4), .val (.int (4 : Int32)), .val (.int i6), .val (.int i7), .val (.ref b6), .unset, .unset, .unset, .unset, .unset, .unset] [(.int (2 : Int32)), (.ref b6)])) _
  refine XS.iloadN X8.here hx rfl (hb hby at_78) rfl ?_
  show Steps p.tables e below (T8.setTop (mkF m 79 #[.val (.int i0), .val (.int i1), .val (.int i2), .val (.int i3), .val (.int i4), .val (.int (4 : Int32)), .val (.int i6), .val (.int i7), .val (.ref b6), .unset, .unset, .unset, .unset, .unset, .unset] [(.int i3), (.int (2 : Int32)), (.ref b6)])) _
  refine st9 _ ?_
  show Steps p.tables e below (T9.setTop (mkF m 80 #[.val (.int i0), .val (.int i1), .val (.int i2), .val (.int i3), .val (.int i4), .val (.int (4 : Int32)), .val (.int i6), .val (.int i7), .val (.ref b6), .unset, .unset, .unset, .unset, .unset, .unset] [])) _
  refine XS.iload X9.here hx rfl (hb hby at_80) rfl ?_
  show Steps p.tables e below (T9.setTop (mkF m 82 #[.val (.int i0), .val (.int i1), .val (.int i2), .val (.int i3), .val (.int i4), .val (.int (4 : Int32)), .val (.int i6), .val (.int i7), .val (.ref b6), .unset, .unset, .unset, .unset, .unset, .unset] [(.int (4 : Int32))])) _
  refine XS.iconst X9.here hx rfl (hb hby at_82) ?_
  show Steps p.tables e below (T9.setTop (mkF m 83 #[.val (.int i0), .val (.int i1), .val (.int i2), .val (.int i3), .val (.int i4), .val (.int (4 : Int32)), .val (.int i6), .val (.int i7), .val (.ref b6), .unset, .unset, .unset, .unset, .unset, .unset] [(.int (3 : Int32)), (.int (4 : Int32))])) _
  refine XS.icmpNo X9.here hx rfl (hb hby at_83) rfl (tlt hc83).2.2.2 ?_
  show Steps p.tables e below (T9.setTop (mkF m 86 #[.val (.int i0), .val (.int i1), .val (.int i2), .val (.int i3), .val (.int i4), .val (.int (4 : Int32)), .val (.int i6), .val (.int i7), .val (.ref b6), .unset, .unset, .unset, .unset, .unset, .unset] [])) _
  refine XS.aload X9.here hx rfl (hb hby at_86) rfl rfl ?_
  show Steps p.tables e below (T9.setTop (mkF m 88 #[.val (.int i0), .val (.int i1), .val (.int i2), .val (.int i3), .val (.int i4), .val (.int (4 : Int32)), .val (.int i6), .val (.int i7), .val (.ref b6), .unset, .unset, .unset, .unset, .unset, .unset] [(.ref b6)])) _
  refine XS.iconst X9.here hx rfl (hb hby at_88) ?_
  show Steps p.tables e below (T9.setTop (mkF m 89 #[.val (.int i0), .val (.int i1), .val (.int i2), .val (.int i3), .val (.int i4), .val (.int (4 : Int32)), .val (.int i6), .val (.int i7), .val (.ref b6), .unset, .unset, .unset, .unset, .unset, .unset] [(.int (3 : Int32)), (.ref b6)])) _
  refine XS.iload X9.here hx rfl (hb hby at_89) rfl ?_
  show Steps p.tables e below (T9.setTop (mkF m 91 #[.val (.int i0), .val (.int i1), .val (.int i2), .val (.int i3), .val (.int i4), .val (.int (4 : Int32)), .val (.int i6), .val (.int i7), .val (.ref b6), .unset, .unset, .unset, .unset, .unset, .unset] [(.int i4), (.int (3 : Int32)), (.ref b6)])) _
  refine st10 _ ?_
  show Steps p.tables e below (T10.setTop (mkF m 92 #[.val (.int i0), .val (.int i1), .val (.int i2), .val (.int i3), .val (.int i4), .val (.int (4 : Int32)), .val (.int i6), .val (.int i7), .val (.ref b6), .unset, .unset, .unset, .unset, .unset, .unset] [])) _
  refine XS.iload X10.here hx rfl (hb hby at_92) rfl ?_
  show Steps p.tables e below (T10.setTop (mkF m 94 #[.val (.int i0), .val (.int i1), .val (.int i2), .val (.int i3), .val (.int i4), .val (.int (4 : Int32)), .val (.int i6), .val (.int i7), .val (.ref b6), .unset, .unset, .unset, .unset, .unset, .unset] [(.int (4 : Int32))])) _
  refine XS.iconst X10.here hx rfl (hb hby at_94) ?_
  show Steps p.tables e below (T10.setTop (mkF m 95 #[.val (.int i0), .val (.int i1), .val (.int i2), .val (.int i3), .val (.int i4), .val (.int (4 : Int32)), .val (.int i6), .val (.int i7), .val (.ref b6), .unset, .unset, .unset, .unset, .unset, .unset] [(.int (4 : Int32)), (.int (4 : Int32))])) _
  refine XS.icmpYes X10.here hx rfl (pc0 := 95) (pc' := 105) rfl (hb hby at_95) rfl (flt hc95).2.2.2 (by decide) (by decide) ?_
  exact kt
set_option maxRecDepth 65536 in
set_option maxHeartbeats 40000000 in
theorem sgB5 {p : Program} {l : Launch} {e : Env} {s : State} {m : MethodId} {args : Array Value} {below : List Frame} {meth : Method} {c : Code} {T0 : State} {locs : List Loc} {Z : State} {a0 : Array Value} {h0 : Heap} {n0 : Nat} (i0 : Int32) (i1 : Int32) (i2 : Int32) (i3 : Int32) (i4 : Int32) (i6 : Int32) (i7 : Int32)
    (X0 : Stand p l e room_1 s m args below meth c T0 locs 0 0) (hx : p.tables.exec = Jvm.exec) (hZ : Z.Warmed39 s.vm) (hw : ∀ d ∈ tables_1, d.before a0 Z = true) (hby : c.code = code) (hml : c.maxLocals = 15) (hown : s.vm.findClass "com/example/restless_reasoner/restlessreasoner/engine/tableau/PremisesIsInequalityPinLaw" = some m.cls) (e0 : T0.heap = h0) (Z0 : n0 ≤ h0.size) (N0 : Fr n0 locs) (hc49 : (0 : Int32) < (5 : Int32)) (hc60 : (1 : Int32) < (5 : Int32)) (hc72 : (2 : Int32) < (5 : Int32)) (hc83 : (3 : Int32) < (5 : Int32)) (hc95 : (4 : Int32) < (5 : Int32)) :
    ∃ (T' : State) (h' : Heap) (locs' : List Loc) (b6 : Addr) (k6 : ClassId), Stand p l e room_1 s m args below meth c T' locs' 1 5 ∧ T'.heap = h' ∧ Fr n0 locs' ∧ Keep h0 h' [] ∧ n0 ≤ b6 ∧ h0.size ≤ b6 ∧ Arv Z h' b6 k6 .int (5 : Int32) [(.int i1), (.int i7), (.int i3), (.int i4), (.int (i1 ^^^ i3))] (.int (0 : Int32)) ∧
      ∀ target, Steps p.tables e below (T'.setTop (mkF m 105 #[.val (.int i0), .val (.int i1), .val (.int i2), .val (.int i3), .val (.int i4), .val (.int (5 : Int32)), .val (.int i6), .val (.int i7), .val (.ref b6), .unset, .unset, .unset, .unset, .unset, .unset] [])) target → Steps p.tables e below (T0.setTop (mkF m 41 #[.val (.int i0), .val (.int i1), .val (.int i2), .val (.int i3), .val (.int i4), .val (.int (5 : Int32)), .val (.int i6), .val (.int i7), .unset, .unset, .unset, .unset, .unset, .unset, .unset] [])) target := by
  obtain ⟨T6, h6, k6, X6, e6, E6, A6, st6⟩ := newP X0 hx hZ (hw _ (List.mem_of_getElem? (i := 1) rfl)) e0 (g := (mkF m 43 #[.val (.int i0), .val (.int i1), .val (.int i2), .val (.int i3), .val (.int i4), .val (.int (5 : Int32)), .val (.int i6), .val (.int i7), .unset, .unset, .unset, .unset, .unset, .unset, .unset] [(.int (5 : Int32))])) rfl (hb hby at_43) rfl (by decide) (cap := 5) (by decide) (by decide) (by decide) (by decide)
  obtain ⟨b6, g6⟩ : ∃ z, z = h0.size := ⟨_, rfl⟩
  rw [← g6] at A6 st6
  have V_b6 : Arv Z h6 b6 k6 .int (5 : Int32) [(.int (0 : Int32)), (.int (0 : Int32)), (.int (0 : Int32)), (.int (0 : Int32)), (.int (0 : Int32))] (.int (0 : Int32)) := (Arv.new A6 (by decide)).pad (pad_rep [] (.int (0 : Int32)) 5)
  have g_b6 : n0 ≤ b6 := Nat.le_trans Z0 (Nat.le_of_eq g6.symm)
  have sz_b6 : h0.size ≤ b6 := (Nat.le_trans (Keep.refl h0 []).1 (Nat.le_of_eq g6.symm))
  have K6 : Keep h0 h6 [] := (Keep.refl h0 []).ext E6
  obtain ⟨cl_b6_56, Ar_b6, q_b6, S_b6, N_b6, H_b6, G_b6⟩ := V_b6
  have hin56 : ¬ ((0 : Int32) < 0 ∨ cl_b6_56.slots.size ≤ ((0 : Int32)).toNatClampNeg) := inb_of S_b6 ⟨by decide, by decide⟩
  obtain ⟨T7, h7, X7, e7, W7, st7⟩ := stI X6 hx hZ e6 Ar_b6 (j := (0 : Int32)) hin56 (g := (mkF m 56 #[.val (.int i0), .val (.int i1), .val (.int i2), .val (.int i3), .val (.int i4), .val (.int (5 : Int32)), .val (.int i6), .val (.int i7), .val (.ref b6), .unset, .unset, .unset, .unset, .unset, .unset] [(.int i1), (.int (0 : Int32)), (.ref b6)])) rfl rfl (hb hby at_56)
  have V_b6_7 := Arv.set Ar_b6 q_b6 S_b6 N_b6 H_b6 G_b6 rfl W7 0 rfl (Nat.le_of_ble_eq_true rfl)
  have K7 : Keep h0 h7 [] := K6.wr W7 (Or.inr sz_b6)
  have N7 := Fr.snoc X7 N0 g_b6
  obtain ⟨cl_b6_68, Ar_b6, q_b6, S_b6, N_b6, H_b6, G_b6⟩ := V_b6_7
  have hin68 : ¬ ((1 : Int32) < 0 ∨ cl_b6_68.slots.size ≤ ((1 : Int32)).toNatClampNeg) := inb_of S_b6 ⟨by decide, by decide⟩
  obtain ⟨T8, h8, X8, e8, W8, st8⟩ := stI X7 hx hZ e7 Ar_b6 (j := (1 : Int32)) hin68 (g := (mkF m 68 #[.val (.int i0), .val (.int i1), .val (.int i2), .val (.int i3), .val (.int i4), .val (.int (5 : Int32)), .val (.int i6), .val (.int i7), .val (.ref b6), .unset, .unset, .unset, .unset, .unset, .unset] [(.int i7), (.int (1 : Int32)), (.ref b6)])) rfl rfl (hb hby at_68)
  have V_b6_8 := Arv.set Ar_b6 q_b6 S_b6 N_b6 H_b6 G_b6 rfl W8 1 rfl (Nat.le_of_ble_eq_true rfl)
  have K8 : Keep h0 h8 [] := K7.wr W8 (Or.inr sz_b6)
  have N8 := Fr.snoc X8 N7 g_b6
  obtain ⟨cl_b6_79, Ar_b6, q_b6, S_b6, N_b6, H_b6, G_b6⟩ := V_b6_8
  have hin79 : ¬ ((2 : Int32) < 0 ∨ cl_b6_79.slots.size ≤ ((2 : Int32)).toNatClampNeg) := inb_of S_b6 ⟨by decide, by decide⟩
  obtain ⟨T9, h9, X9, e9, W9, st9⟩ := stI X8 hx hZ e8 Ar_b6 (j := (2 : Int32)) hin79 (g := (mkF m 79 #[.val (.int i0), .val (.int i1), .val (.int i2), .val (.int i3), .val (.int i4), .val (.int (5 : Int32)), .val (.int i6), .val (.int i7), .val (.ref b6), .unset, .unset, .unset, .unset, .unset, .unset] [(.int i3), (.int (2 : Int32)), (.ref b6)])) rfl rfl (hb hby at_79)
  have V_b6_9 := Arv.set Ar_b6 q_b6 S_b6 N_b6 H_b6 G_b6 rfl W9 2 rfl (Nat.le_of_ble_eq_true rfl)
  have K9 : Keep h0 h9 [] := K8.wr W9 (Or.inr sz_b6)
  have N9 := Fr.snoc X9 N8 g_b6
  obtain ⟨cl_b6_91, Ar_b6, q_b6, S_b6, N_b6, H_b6, G_b6⟩ := V_b6_9
  have hin91 : ¬ ((3 : Int32) < 0 ∨ cl_b6_91.slots.size ≤ ((3 : Int32)).toNatClampNeg) := inb_of S_b6 ⟨by decide, by decide⟩
  obtain ⟨T10, h10, X10, e10, W10, st10⟩ := stI X9 hx hZ e9 Ar_b6 (j := (3 : Int32)) hin91 (g := (mkF m 91 #[.val (.int i0), .val (.int i1), .val (.int i2), .val (.int i3), .val (.int i4), .val (.int (5 : Int32)), .val (.int i6), .val (.int i7), .val (.ref b6), .unset, .unset, .unset, .unset, .unset, .unset] [(.int i4), (.int (3 : Int32)), (.ref b6)])) rfl rfl (hb hby at_91)
  have V_b6_10 := Arv.set Ar_b6 q_b6 S_b6 N_b6 H_b6 G_b6 rfl W10 3 rfl (Nat.le_of_ble_eq_true rfl)
  have K10 : Keep h0 h10 [] := K9.wr W10 (Or.inr sz_b6)
  have N10 := Fr.snoc X10 N9 g_b6
  obtain ⟨cl_b6_104, Ar_b6, q_b6, S_b6, N_b6, H_b6, G_b6⟩ := V_b6_10
  have hin104 : ¬ ((4 : Int32) < 0 ∨ cl_b6_104.slots.size ≤ ((4 : Int32)).toNatClampNeg) := inb_of S_b6 ⟨by decide, by decide⟩
  obtain ⟨T11, h11, X11, e11, W11, st11⟩ := stI X10 hx hZ e10 Ar_b6 (j := (4 : Int32)) hin104 (g := (mkF m 104 #[.val (.int i0), .val (.int i1), .val (.int i2), .val (.int i3), .val (.int i4), .val (.int (5 : Int32)), .val (.int i6), .val (.int i7), .val (.ref b6), .unset, .unset, .unset, .unset, .unset, .unset] [(.int (i1 ^^^ i3)), (.int (4 : Int32)), (.ref b6)])) rfl rfl (hb hby at_104)
  have V_b6_11 := Arv.set Ar_b6 q_b6 S_b6 N_b6 H_b6 G_b6 rfl W11 4 rfl (Nat.le_of_ble_eq_true rfl)
  have K11 : Keep h0 h11 [] := K10.wr W11 (Or.inr sz_b6)
  have N11 := Fr.snoc X11 N10 g_b6
  refine ⟨T11, _, _, b6, k6, X11, e11, N11, K11, g_b6, sz_b6, V_b6_11, fun target kt => ?_⟩
  show Steps p.tables e below (T0.setTop (mkF m 41 #[.val (.int i0), .val (.int i1), .val (.int i2), .val (.int i3), .val (.int i4), .val (.int (5 : Int32)), .val (.int i6), .val (.int i7), .unset, .unset, .unset, .unset, .unset, .unset, .unset] [])) _
  refine XS.iload X0.here hx rfl (hb hby at_41) rfl ?_
  show Steps p.tables e below (T0.setTop (mkF m 43 #[.val (.int i0), .val (.int i1), .val (.int i2), .val (.int i3), .val (.int i4), .val (.int (5 : Int32)), .val (.int i6), .val (.int i7), .unset, .unset, .unset, .unset, .unset, .unset, .unset] [(.int (5 : Int32))])) _
  refine st6 _ ?_
  show Steps p.tables e below (T6.setTop (mkF m 45 #[.val (.int i0), .val (.int i1), .val (.int i2), .val (.int i3), .val (.int i4), .val (.int (5 : Int32)), .val (.int i6), .val (.int i7), .unset, .unset, .unset, .unset, .unset, .unset, .unset] [(.ref b6)])) _
  refine XS.astore X6.here hx rfl (hb hby at_45) rfl rfl (l' := #[.val (.int i0), .val (.int i1), .val (.int i2), .val (.int i3), .val (.int i4), .val (.int (5 : Int32)), .val (.int i6), .val (.int i7), .val (.ref b6), .unset, .unset, .unset, .unset, .unset, .unset]) rfl ?_
  show Steps p.tables e below (T6.setTop (mkF m 47 #[.val (.int i0), .val (.int i1), .val (.int i2), .val (.int i3), .val (.int i4), .val (.int (5 : Int32)), .val (.int i6), .val (.int i7), .val (.ref b6), .unset, .unset, .unset, .unset, .unset, .unset] [])) _
  refine XS.iload X6.here hx rfl (hb hby at_47) rfl ?_
  show Steps p.tables e below (T6.setTop (mkF m 49 #[.val (.int i0), .val (.int i1), .val (.int i2), .val (.int i3), .val (.int i4), .val (.int (5 : Int32)), .val (.int i6), .val (.int i7), .val (.ref b6), .unset, .unset, .unset, .unset, .unset, .unset] [(.int (5 : Int32))])) _
  refine XS.ifNo X6.here hx rfl (hb hby at_49) rfl ((if0 _ _).trans (tlt hc49).2.2.2) ?_
  show Steps p.tables e below (T6.setTop (mkF m 52 #[.val (.int i0), .val (.int i1), .val (.int i2), .val (.int i3), .val (.int i4), .val (.int (5 : Int32)), .val (.int i6), .val (.int i7), .val (.ref b6), .unset, .unset, .unset, .unset, .unset, .unset] [])) _
  refine XS.aload X6.here hx rfl (hb hby at_52) rfl rfl ?_
  show Steps p.tables e below (T6.setTop (mkF m 54 #[.val (.int i0), .val (.int i1), .val (.int i2), .val (.int i3), .val (.int i4), .val (.int (5 : Int32)), .val (.int i6), .val (.int i7), .val (.ref b6), .unset, .unset, .unset, .unset, .unset, .unset] [(.ref b6)])) _
  refine XS.iconst X6.here hx rfl (hb hby at_54) ?_
  show Steps p.tables e below (T6.setTop (mkF m 55 #[.val (.int i0), .val (.int i1), .val (.int i2), .val (.int i3), .val (.int i4), .val (.int (5 : Int32)), .val (.int i6), .val (.int i7), .val (.ref b6), .unset, .unset, .unset, .unset, .unset, .unset] [(.int (0 : Int32)), (.ref b6)])) _
  refine XS.iloadN X6.here hx rfl (hb hby at_55) rfl ?_
  show Steps p.tables e below (T6.setTop (mkF m 56 #[.val (.int i0), .val (.int i1), .val (.int i2), .val (.int i3), .val (.int i4), .val (.int (5 : Int32)), .val (.int i6), .val (.int i7), .val (.ref b6), .unset, .unset, .unset, .unset, .unset, .unset] [(.int i1), (.int (0 : Int32)), (.ref b6)])) _
  refine st7 _ ?_
  show Steps p.tables e below (T7.setTop (mkF m 57 #[.val (.int i0), .val (.int i1), .val (.int i2), .val (.int i3), .val (.int i4), .val (.int (5 : Int32)), .val (.int i6), .val (.int i7), .val (.ref b6), .unset, .unset, .unset, .unset, .unset, .unset] [])) _
  refine XS.iload X7.here hx rfl (hb hby at_57) rfl ?_
  show Steps p.tables e below (T7.setTop (mkF m 59 #[.val (.int i0), .val (.int i1), .val (.int i2), .val (.int i3), .val (.int i4), .val (.int (5 : Int32)), .val (.int i6), .val (.int i7), .val (.ref b6), .unset, .unset, .unset, .unset, .unset, .unset] [(.int (5 : Int32))])) _
  refine XS.iconst X7.here hx rfl (hb hby at_59) ?_
  show Steps p.tables e below (T7.setTop (mkF m 60 #[.val (.int i0), .val (.int i1), .val (.int i2), .val (.int i3), .val (.int i4), .val (.int (5 : Int32)), .val (.int i6), .val (.int i7), .val (.ref b6), .unset, .unset, .unset, .unset, .unset, .unset] [(.int (1 : Int32)), (.int (5 : Int32))])) _
  refine XS.icmpNo X7.here hx rfl (hb hby at_60) rfl (tlt hc60).2.2.2 ?_
  show Steps p.tables e below (T7.setTop (mkF m 63 #[.val (.int i0), .val (.int i1), .val (.int i2), .val (.int i3), .val (.int i4), .val (.int (5 : Int32)), .val (.int i6), .val (.int i7), .val (.ref b6), .unset, .unset, .unset, .unset, .unset, .unset] [])) _
  refine XS.aload X7.here hx rfl (hb hby at_63) rfl rfl ?_
  show Steps p.tables e below (T7.setTop (mkF m 65 #[.val (.int i0), .val (.int i1), .val (.int i2), .val (.int i3), .val (.int i4), .val (.int (5 : Int32)), .val (.int i6), .val (.int i7), .val (.ref b6), .unset, .unset, .unset, .unset, .unset, .unset] [(.ref b6)])) _
  refine XS.iconst X7.here hx rfl (hb hby at_65) ?_
  show Steps p.tables e below (T7.setTop (mkF m 66 #[.val (.int i0), .val (.int i1), .val (.int i2), .val (.int i3), .val (.int i4), .val (.int (5 : Int32)), .val (.int i6), .val (.int i7), .val (.ref b6), .unset, .unset, .unset, .unset, .unset, .unset] [(.int (1 : Int32)), (.ref b6)])) _
  refine XS.iload X7.here hx rfl (hb hby at_66) rfl ?_
  show Steps p.tables e below (T7.setTop (mkF m 68 #[.val (.int i0), .val (.int i1), .val (.int i2), .val (.int i3), .val (.int i4), .val (.int (5 : Int32)), .val (.int i6), .val (.int i7), .val (.ref b6), .unset, .unset, .unset, .unset, .unset, .unset] [(.int i7), (.int (1 : Int32)), (.ref b6)])) _
  refine st8 _ ?_
  show Steps p.tables e below (T8.setTop (mkF m 69 #[.val (.int i0), .val (.int i1), .val (.int i2), .val (.int i3), .val (.int i4), .val (.int (5 : Int32)), .val (.int i6), .val (.int i7), .val (.ref b6), .unset, .unset, .unset, .unset, .unset, .unset] [])) _
  refine XS.iload X8.here hx rfl (hb hby at_69) rfl ?_
  show Steps p.tables e below (T8.setTop (mkF m 71 #[.val (.int i0), .val (.int i1), .val (.int i2), .val (.int i3), .val (.int i4), .val (.int (5 : Int32)), .val (.int i6), .val (.int i7), .val (.ref b6), .unset, .unset, .unset, .unset, .unset, .unset] [(.int (5 : Int32))])) _
  refine XS.iconst X8.here hx rfl (hb hby at_71) ?_
  show Steps p.tables e below (T8.setTop (mkF m 72 #[.val (.int i0), .val (.int i1), .val (.int i2), .val (.int i3), .val (.int i4), .val (.int (5 : Int32)), .val (.int i6), .val (.int i7), .val (.ref b6), .unset, .unset, .unset, .unset, .unset, .unset] [(.int (2 : Int32)), (.int (5 : Int32))])) _
  refine XS.icmpNo X8.here hx rfl (hb hby at_72) rfl (tlt hc72).2.2.2 ?_
  show Steps p.tables e below (T8.setTop (mkF m 75 #[.val (.int i0), .val (.int i1), .val (.int i2), .val (.int i3), .val (.int i4), .val (.int (5 : Int32)), .val (.int i6), .val (.int i7), .val (.ref b6), .unset, .unset, .unset, .unset, .unset, .unset] [])) _
  refine XS.aload X8.here hx rfl (hb hby at_75) rfl rfl ?_
  show Steps p.tables e below (T8.setTop (mkF m 77 #[.val (.int i0), .val (.int i1), .val (.int i2), .val (.int i3), .val (.int i4), .val (.int (5 : Int32)), .val (.int i6), .val (.int i7), .val (.ref b6), .unset, .unset, .unset, .unset, .unset, .unset] [(.ref b6)])) _
  refine XS.iconst X8.here hx rfl (hb hby at_77) ?_
  show Steps p.tables e below (T8.setTop (mkF m 78 #[.val (.int i0), .val (.int i1), .val (.int i2), .val (.int i3), .val (.int i4), .val (.int (5 : Int32)), .val (.int i6), .val (.int i7), .val (.ref b6), .unset, .unset, .unset, .unset, .unset, .unset] [(.int (2 : Int32)), (.ref b6)])) _
  refine XS.iloadN X8.here hx rfl (hb hby at_78) rfl ?_
  show Steps p.tables e below (T8.setTop (mkF m 79 #[.val (.int i0), .val (.int i1), .val (.int i2), .val (.int i3), .val (.int i4), .val (.int (5 : Int32)), .val (.int i6), .val (.int i7), .val (.ref b6), .unset, .unset, .unset, .unset, .unset, .unset] [(.int i3), (.int (2 : Int32)), (.ref b6)])) _
  refine st9 _ ?_
  show Steps p.tables e below (T9.setTop (mkF m 80 #[.val (.int i0), .val (.int i1), .val (.int i2), .val (.int i3), .val (.int i4), .val (.int (5 : Int32)), .val (.int i6), .val (.int i7), .val (.ref b6), .unset, .unset, .unset, .unset, .unset, .unset] [])) _
  refine XS.iload X9.here hx rfl (hb hby at_80) rfl ?_
  show Steps p.tables e below (T9.setTop (mkF m 82 #[.val (.int i0), .val (.int i1), .val (.int i2), .val (.int i3), .val (.int i4), .val (.int (5 : Int32)), .val (.int i6), .val (.int i7), .val (.ref b6), .unset, .unset, .unset, .unset, .unset, .unset] [(.int (5 : Int32))])) _
  refine XS.iconst X9.here hx rfl (hb hby at_82) ?_
  show Steps p.tables e below (T9.setTop (mkF m 83 #[.val (.int i0), .val (.int i1), .val (.int i2), .val (.int i3), .val (.int i4), .val (.int (5 : Int32)), .val (.int i6), .val (.int i7), .val (.ref b6), .unset, .unset, .unset, .unset, .unset, .unset] [(.int (3 : Int32)), (.int (5 : Int32))])) _
  refine XS.icmpNo X9.here hx rfl (hb hby at_83) rfl (tlt hc83).2.2.2 ?_
  show Steps p.tables e below (T9.setTop (mkF m 86 #[.val (.int i0), .val (.int i1), .val (.int i2), .val (.int i3), .val (.int i4), .val (.int (5 : Int32)), .val (.int i6), .val (.int i7), .val (.ref b6), .unset, .unset, .unset, .unset, .unset, .unset] [])) _
  refine XS.aload X9.here hx rfl (hb hby at_86) rfl rfl ?_
  show Steps p.tables e below (T9.setTop (mkF m 88 #[.val (.int i0), .val (.int i1), .val (.int i2), .val (.int i3), .val (.int i4), .val (.int (5 : Int32)), .val (.int i6), .val (.int i7), .val (.ref b6), .unset, .unset, .unset, .unset, .unset, .unset] [(.ref b6)])) _
  refine XS.iconst X9.here hx rfl (hb hby at_88) ?_
  show Steps p.tables e below (T9.setTop (mkF m 89 #[.val (.int i0), .val (.int i1), .val (.int i2), .val (.int i3), .val (.int i4), .val (.int (5 : Int32)), .val (.int i6), .val (.int i7), .val (.ref b6), .unset, .unset, .unset, .unset, .unset, .unset] [(.int (3 : Int32)), (.ref b6)])) _
  refine XS.iload X9.here hx rfl (hb hby at_89) rfl ?_
  show Steps p.tables e below (T9.setTop (mkF m 91 #[.val (.int i0), .val (.int i1), .val (.int i2), .val (.int i3), .val (.int i4), .val (.int (5 : Int32)), .val (.int i6), .val (.int i7), .val (.ref b6), .unset, .unset, .unset, .unset, .unset, .unset] [(.int i4), (.int (3 : Int32)), (.ref b6)])) _
  refine st10 _ ?_
  show Steps p.tables e below (T10.setTop (mkF m 92 #[.val (.int i0), .val (.int i1), .val (.int i2), .val (.int i3), .val (.int i4), .val (.int (5 : Int32)), .val (.int i6), .val (.int i7), .val (.ref b6), .unset, .unset, .unset, .unset, .unset, .unset] [])) _
  refine XS.iload X10.here hx rfl (hb hby at_92) rfl ?_
  show Steps p.tables e below (T10.setTop (mkF m 94 #[.val (.int i0), .val (.int i1), .val (.int i2), .val (.int i3), .val (.int i4), .val (.int (5 : Int32)), .val (.int i6), .val (.int i7), .val (.ref b6), .unset, .unset, .unset, .unset, .unset, .unset] [(.int (5 : Int32))])) _
  refine XS.iconst X10.here hx rfl (hb hby at_94) ?_
  show Steps p.tables e below (T10.setTop (mkF m 95 #[.val (.int i0), .val (.int i1), .val (.int i2), .val (.int i3), .val (.int i4), .val (.int (5 : Int32)), .val (.int i6), .val (.int i7), .val (.ref b6), .unset, .unset, .unset, .unset, .unset, .unset] [(.int (4 : Int32)), (.int (5 : Int32))])) _
  refine XS.icmpNo X10.here hx rfl (hb hby at_95) rfl (tlt hc95).2.2.2 ?_
  show Steps p.tables e below (T10.setTop (mkF m 98 #[.val (.int i0), .val (.int i1), .val (.int i2), .val (.int i3), .val (.int i4), .val (.int (5 : Int32)), .val (.int i6), .val (.int i7), .val (.ref b6), .unset, .unset, .unset, .unset, .unset, .unset] [])) _
  refine XS.aload X10.here hx rfl (hb hby at_98) rfl rfl ?_
  show Steps p.tables e below (T10.setTop (mkF m 100 #[.val (.int i0), .val (.int i1), .val (.int i2), .val (.int i3), .val (.int i4), .val (.int (5 : Int32)), .val (.int i6), .val (.int i7), .val (.ref b6), .unset, .unset, .unset, .unset, .unset, .unset] [(.ref b6)])) _
  refine XS.iconst X10.here hx rfl (hb hby at_100) ?_
  show Steps p.tables e below (T10.setTop (mkF m 101 #[.val (.int i0), .val (.int i1), .val (.int i2), .val (.int i3), .val (.int i4), .val (.int (5 : Int32)), .val (.int i6), .val (.int i7), .val (.ref b6), .unset, .unset, .unset, .unset, .unset, .unset] [(.int (4 : Int32)), (.ref b6)])) _
  refine XS.iloadN X10.here hx rfl (hb hby at_101) rfl ?_
  show Steps p.tables e below (T10.setTop (mkF m 102 #[.val (.int i0), .val (.int i1), .val (.int i2), .val (.int i3), .val (.int i4), .val (.int (5 : Int32)), .val (.int i6), .val (.int i7), .val (.ref b6), .unset, .unset, .unset, .unset, .unset, .unset] [(.int i1), (.int (4 : Int32)), (.ref b6)])) _
  refine XS.iloadN X10.here hx rfl (hb hby at_102) rfl ?_
  show Steps p.tables e below (T10.setTop (mkF m 103 #[.val (.int i0), .val (.int i1), .val (.int i2), .val (.int i3), .val (.int i4), .val (.int (5 : Int32)), .val (.int i6), .val (.int i7), .val (.ref b6), .unset, .unset, .unset, .unset, .unset, .unset] [(.int i3), (.int i1), (.int (4 : Int32)), (.ref b6)])) _
  refine XS.ixor X10.here hx rfl (hb hby at_103) rfl ?_
  show Steps p.tables e below (T10.setTop (mkF m 104 #[.val (.int i0), .val (.int i1), .val (.int i2), .val (.int i3), .val (.int i4), .val (.int (5 : Int32)), .val (.int i6), .val (.int i7), .val (.ref b6), .unset, .unset, .unset, .unset, .unset, .unset] [(.int (i1 ^^^ i3)), (.int (4 : Int32)), (.ref b6)])) _
  refine st11 _ ?_
  exact kt
set_option maxRecDepth 65536 in
set_option maxHeartbeats 40000000 in
theorem sgB {p : Program} {l : Launch} {e : Env} {s : State} {m : MethodId} {args : Array Value} {below : List Frame} {meth : Method} {c : Code} {T0 : State} {locs : List Loc} {Z : State} {a0 : Array Value} {h0 : Heap} {n0 : Nat} (i0 : Int32) (i1 : Int32) (i2 : Int32) (i3 : Int32) (i4 : Int32) (i5 : Int32) (i6 : Int32) (i7 : Int32) 
    (hn : i5 = 0 ∨ i5 = 1 ∨ i5 = 2 ∨ i5 = 3 ∨ i5 = 4 ∨ i5 = 5) (X0 : Stand p l e room_1 s m args below meth c T0 locs 0 0) (hx : p.tables.exec = Jvm.exec) (hZ : Z.Warmed39 s.vm) (hw : ∀ d ∈ tables_1, d.before a0 Z = true) (hby : c.code = code) (hml : c.maxLocals = 15) (hown : s.vm.findClass "com/example/restless_reasoner/restlessreasoner/engine/tableau/PremisesIsInequalityPinLaw" = some m.cls) (e0 : T0.heap = h0) (Z0 : n0 ≤ h0.size) (N0 : Fr n0 locs) :
    ∃ (T' : State) (h' : Heap) (locs' : List Loc) (b : Addr) (k : ClassId) (vs : List Value), Stand p l e room_1 s m args below meth c T' locs' 1 5 ∧ T'.heap = h' ∧ Fr n0 locs' ∧ Keep h0 h' [] ∧ n0 ≤ b ∧ h0.size ≤ b ∧ Arv Z h' b k .int i5 vs (.int (0 : Int32)) ∧ ((1 : Int32) < i5 → vs.getD 1 (.int (0 : Int32)) = .int i7) ∧
      ∀ target, Steps p.tables e below (T'.setTop (mkF m 105 #[.val (.int i0), .val (.int i1), .val (.int i2), .val (.int i3), .val (.int i4), .val (.int i5), .val (.int i6), .val (.int i7), .val (.ref b), .unset, .unset, .unset, .unset, .unset, .unset] [])) target → Steps p.tables e below (T0.setTop (mkF m 41 #[.val (.int i0), .val (.int i1), .val (.int i2), .val (.int i3), .val (.int i4), .val (.int i5), .val (.int i6), .val (.int i7), .unset, .unset, .unset, .unset, .unset, .unset, .unset] [])) target := by
  rcases hn with rfl | rfl | rfl | rfl | rfl | rfl
  · obtain ⟨T', h', locs', b, k, X', e', N', K', g', s', V', st⟩ := sgB0 i0 i1 i2 i3 i4 i6 i7 X0 hx hZ hw hby hml hown e0 Z0 N0 (by decide) (by decide) (by decide) (by decide) (by decide)
    exact ⟨T', h', locs', b, k, _, X', e', N', K', g', s', V', (fun h => absurd h (by decide)), st⟩
  · obtain ⟨T', h', locs', b, k, X', e', N', K', g', s', V', st⟩ := sgB1 i0 i1 i2 i3 i4 i6 i7 X0 hx hZ hw hby hml hown e0 Z0 N0 (by decide) (by decide) (by decide) (by decide) (by decide)
    exact ⟨T', h', locs', b, k, _, X', e', N', K', g', s', V', (fun h => absurd h (by decide)), st⟩
  · obtain ⟨T', h', locs', b, k, X', e', N', K', g', s', V', st⟩ := sgB2 i0 i1 i2 i3 i4 i6 i7 X0 hx hZ hw hby hml hown e0 Z0 N0 (by decide) (by decide) (by decide) (by decide) (by decide)
    exact ⟨T', h', locs', b, k, _, X', e', N', K', g', s', V', (fun _ => rfl), st⟩
  · obtain ⟨T', h', locs', b, k, X', e', N', K', g', s', V', st⟩ := sgB3 i0 i1 i2 i3 i4 i6 i7 X0 hx hZ hw hby hml hown e0 Z0 N0 (by decide) (by decide) (by decide) (by decide) (by decide)
    exact ⟨T', h', locs', b, k, _, X', e', N', K', g', s', V', (fun _ => rfl), st⟩
  · obtain ⟨T', h', locs', b, k, X', e', N', K', g', s', V', st⟩ := sgB4 i0 i1 i2 i3 i4 i6 i7 X0 hx hZ hw hby hml hown e0 Z0 N0 (by decide) (by decide) (by decide) (by decide) (by decide)
    exact ⟨T', h', locs', b, k, _, X', e', N', K', g', s', V', (fun _ => rfl), st⟩
  · obtain ⟨T', h', locs', b, k, X', e', N', K', g', s', V', st⟩ := sgB5 i0 i1 i2 i3 i4 i6 i7 X0 hx hZ hw hby hml hown e0 Z0 N0 (by decide) (by decide) (by decide) (by decide) (by decide)
    exact ⟨T', h', locs', b, k, _, X', e', N', K', g', s', V', (fun _ => rfl), st⟩
theorem pd_0_0 : parseMethodDescriptor "([I)Z" = some ⟨[(.array .int)], some .boolean⟩ := by decide +kernel
set_option maxRecDepth 65536 in
set_option maxHeartbeats 40000000 in
theorem sgC_tf {p : Program} {l : Launch} {e : Env} {s : State} {m : MethodId} {args : Array Value} {below : List Frame} {meth : Method} {c : Code} {T0 : State} {locs : List Loc} {Z : State} {a0 : Array Value} {h0 : Heap} {n0 : Nat} (i0 : Int32) (i1 : Int32) (i2 : Int32) (i3 : Int32) (i4 : Int32) (i5 : Int32) (i6 : Int32) (i7 : Int32) (o8 : Addr) (k_o8 : ClassId) (z_o8 : Int32) (vs_o8 : List Value) (w_o8 : Int32)
    (X0 : Stand p l e room_1 s m args below meth c T0 locs 1 5) (hx : p.tables.exec = Jvm.exec) (hZ : Z.Warmed39 s.vm) (hw : ∀ d ∈ tables_1, d.before a0 Z = true) (hby : c.code = code) (hml : c.maxLocals = 15) (hown : s.vm.findClass "com/example/restless_reasoner/restlessreasoner/engine/tableau/PremisesIsInequalityPinLaw" = some m.cls) (e0 : T0.heap = h0) (Z0 : n0 ≤ h0.size) (N0 : Fr n0 locs) (V_o8 : Arv Z h0 o8 k_o8 .int z_o8 vs_o8 (.int (0 : Int32))) (hv_o8 : (1 : Int32) < z_o8 → vs_o8.getD 1 (.int (0 : Int32)) = .int w_o8) (hc108 : i5 < (3 : Int32)) (hc132 : (own_isne z_o8 w_o8) = (0 : Int32)) :
    ∃ (T' : State) (h' : Heap) (locs' : List Loc), Stand p l e room_1 s m args below meth c T' locs' 1 5 ∧ T'.heap = h' ∧ Fr n0 locs' ∧ Keep h0 h' [] ∧
      ∀ target, Steps p.tables e below (T'.setTop (mkF m 142 #[.val (.int i0), .val (.int i1), .val (.int i2), .val (.int i3), .val (.int i4), .val (.int i5), .val (.int i6), .val (.int i7), .val (.ref o8), .val (.int (0 : Int32)), .val (.int (1 : Int32)), .unset, .unset, .unset, .unset] [])) target → Steps p.tables e below (T0.setTop (mkF m 105 #[.val (.int i0), .val (.int i1), .val (.int i2), .val (.int i3), .val (.int i4), .val (.int i5), .val (.int i6), .val (.int i7), .val (.ref o8), .unset, .unset, .unset, .unset, .unset, .unset] [])) target := by
  have VA6_o8 := V_o8
  obtain ⟨_, _, ⟨T6, L6, k6, n6⟩, -, X6, ⟨Lc6, hQ6, l6, y6, z6⟩, st6⟩ := Jvm.LawKit.callS X0 hx (y := (⟨"com/example/restless_reasoner/restlessreasoner/engine/tableau/Premises", "isInequality", "([I)Z"⟩ : MethodName)) hown (mvT hZ (hw _ (List.mem_of_getElem? (i := 2) rfl))) (mvT hZ (hw _ (List.mem_of_getElem? (i := 3) rfl))) (mvT hZ (hw _ (List.mem_of_getElem? (i := 4) rfl))) (mvT hZ (hw _ (List.mem_of_getElem? (i := 5) rfl))) (by decide) (backOf (W := 0) (rm1 l Z a0 hw [] o8 k_o8 z_o8 vs_o8 w_o8 h0 n0 Z0 VA6_o8 hv_o8) hZ (hw _ (List.mem_of_getElem? (i := 5) rfl)) (hw _ (List.mem_of_getElem? (i := 4) rfl)) (by decide) (by decide)) (g := (mkF m 127 #[.val (.int i0), .val (.int i1), .val (.int i2), .val (.int i3), .val (.int i4), .val (.int i5), .val (.int i6), .val (.int i7), .val (.ref o8), .val (.int (0 : Int32)), .unset, .unset, .unset, .unset, .unset] [(.ref o8)])) rfl (by rw [hml]; rfl) (argsL := [(.ref o8)]) (rest := []) (lenOf pd_0_0 rfl) rfl (by show 2 * 0 + _ ≤ _; exact Nat.le_of_eq rfl) (hb hby at_127) (fun _ _ => ⟨rfl, e0, (Nat.le_of_ble_eq_true rfl), (Nat.le_of_ble_eq_true rfl)⟩)
  dsimp only [Pt.U, Pt.locs, Pt.cells, Pt.slots] at X6 l6 y6 z6 st6 hQ6
  subst l6 y6 z6
  obtain ⟨rfl, N6q, h6q⟩ := hQ6
  have Kq6 : Keep h0 T6.heap [] := by rw [h6q]; exact Keep.refl _ _
  have K6 : Keep h0 T6.heap [] := (Keep.refl h0 []).trans Kq6 (fun _ q => nomatch q)
  have N6 := Fr.app N0 N6q
  refine ⟨T6, _, _, X6, rfl, N6, K6, fun target kt => ?_⟩
  show Steps p.tables e below (T0.setTop (mkF m 105 #[.val (.int i0), .val (.int i1), .val (.int i2), .val (.int i3), .val (.int i4), .val (.int i5), .val (.int i6), .val (.int i7), .val (.ref o8), .unset, .unset, .unset, .unset, .unset, .unset] [])) _
  refine XS.iload X0.here hx rfl (hb hby at_105) rfl ?_
  show Steps p.tables e below (T0.setTop (mkF m 107 #[.val (.int i0), .val (.int i1), .val (.int i2), .val (.int i3), .val (.int i4), .val (.int i5), .val (.int i6), .val (.int i7), .val (.ref o8), .unset, .unset, .unset, .unset, .unset, .unset] [(.int i5)])) _
  refine XS.iconst X0.here hx rfl (hb hby at_107) ?_
  show Steps p.tables e below (T0.setTop (mkF m 108 #[.val (.int i0), .val (.int i1), .val (.int i2), .val (.int i3), .val (.int i4), .val (.int i5), .val (.int i6), .val (.int i7), .val (.ref o8), .unset, .unset, .unset, .unset, .unset, .unset] [(.int (3 : Int32)), (.int i5)])) _
  refine XS.icmpYes X0.here hx rfl (pc0 := 108) (pc' := 122) rfl (hb hby at_108) rfl (tlt hc108).1 (by decide) (by decide) ?_
  show Steps p.tables e below (T0.setTop (mkF m 122 #[.val (.int i0), .val (.int i1), .val (.int i2), .val (.int i3), .val (.int i4), .val (.int i5), .val (.int i6), .val (.int i7), .val (.ref o8), .unset, .unset, .unset, .unset, .unset, .unset] [])) _
  refine XS.iconst X0.here hx rfl (hb hby at_122) ?_
  show Steps p.tables e below (T0.setTop (mkF m 123 #[.val (.int i0), .val (.int i1), .val (.int i2), .val (.int i3), .val (.int i4), .val (.int i5), .val (.int i6), .val (.int i7), .val (.ref o8), .unset, .unset, .unset, .unset, .unset, .unset] [(.int (0 : Int32))])) _
  refine XS.istore X0.here hx rfl (hb hby at_123) rfl (l' := #[.val (.int i0), .val (.int i1), .val (.int i2), .val (.int i3), .val (.int i4), .val (.int i5), .val (.int i6), .val (.int i7), .val (.ref o8), .val (.int (0 : Int32)), .unset, .unset, .unset, .unset, .unset]) rfl ?_
  show Steps p.tables e below (T0.setTop (mkF m 125 #[.val (.int i0), .val (.int i1), .val (.int i2), .val (.int i3), .val (.int i4), .val (.int i5), .val (.int i6), .val (.int i7), .val (.ref o8), .val (.int (0 : Int32)), .unset, .unset, .unset, .unset, .unset] [])) _
  refine XS.aload X0.here hx rfl (hb hby at_125) rfl rfl ?_
  show Steps p.tables e below (T0.setTop (mkF m 127 #[.val (.int i0), .val (.int i1), .val (.int i2), .val (.int i3), .val (.int i4), .val (.int i5), .val (.int i6), .val (.int i7), .val (.ref o8), .val (.int (0 : Int32)), .unset, .unset, .unset, .unset, .unset] [(.ref o8)])) _
  refine st6 _ ?_
  show Steps p.tables e below (T6.setTop (mkF m 130 #[.val (.int i0), .val (.int i1), .val (.int i2), .val (.int i3), .val (.int i4), .val (.int i5), .val (.int i6), .val (.int i7), .val (.ref o8), .val (.int (0 : Int32)), .unset, .unset, .unset, .unset, .unset] [(.int (own_isne z_o8 w_o8))])) _
  refine XS.iload X6.here hx rfl (hb hby at_130) rfl ?_
  show Steps p.tables e below (T6.setTop (mkF m 132 #[.val (.int i0), .val (.int i1), .val (.int i2), .val (.int i3), .val (.int i4), .val (.int i5), .val (.int i6), .val (.int i7), .val (.ref o8), .val (.int (0 : Int32)), .unset, .unset, .unset, .unset, .unset] [(.int (0 : Int32)), (.int (own_isne z_o8 w_o8))])) _
  refine XS.icmpNo X6.here hx rfl (hb hby at_132) rfl (teq hc132).2 ?_
  show Steps p.tables e below (T6.setTop (mkF m 135 #[.val (.int i0), .val (.int i1), .val (.int i2), .val (.int i3), .val (.int i4), .val (.int i5), .val (.int i6), .val (.int i7), .val (.ref o8), .val (.int (0 : Int32)), .unset, .unset, .unset, .unset, .unset] [])) _
  refine XS.iconst X6.here hx rfl (hb hby at_135) ?_
  show Steps p.tables e below (T6.setTop (mkF m 136 #[.val (.int i0), .val (.int i1), .val (.int i2), .val (.int i3), .val (.int i4), .val (.int i5), .val (.int i6), .val (.int i7), .val (.ref o8), .val (.int (0 : Int32)), .unset, .unset, .unset, .unset, .unset] [(.int (1 : Int32))])) _
  refine XS.goto X6.here hx rfl (pc0 := 136) (pc' := 140) rfl (hb hby at_136) (by decide) (by decide) ?_
  show Steps p.tables e below (T6.setTop (mkF m 140 #[.val (.int i0), .val (.int i1), .val (.int i2), .val (.int i3), .val (.int i4), .val (.int i5), .val (.int i6), .val (.int i7), .val (.ref o8), .val (.int (0 : Int32)), .unset, .unset, .unset, .unset, .unset] [(.int (1 : Int32))])) _
  refine XS.istore X6.here hx rfl (hb hby at_140) rfl (l' := #[.val (.int i0), .val (.int i1), .val (.int i2), .val (.int i3), .val (.int i4), .val (.int i5), .val (.int i6), .val (.int i7), .val (.ref o8), .val (.int (0 : Int32)), .val (.int (1 : Int32)), .unset, .unset, .unset, .unset]) rfl ?_
  exact kt
set_option maxRecDepth 65536 in
set_option maxHeartbeats 40000000 in
theorem sgC_ftf {p : Program} {l : Launch} {e : Env} {s : State} {m : MethodId} {args : Array Value} {below : List Frame} {meth : Method} {c : Code} {T0 : State} {locs : List Loc} {Z : State} {a0 : Array Value} {h0 : Heap} {n0 : Nat} (i0 : Int32) (i1 : Int32) (i2 : Int32) (i3 : Int32) (i4 : Int32) (i5 : Int32) (i6 : Int32) (i7 : Int32) (o8 : Addr) (k_o8 : ClassId) (z_o8 : Int32) (vs_o8 : List Value) (w_o8 : Int32)
    (X0 : Stand p l e room_1 s m args below meth c T0 locs 1 5) (hx : p.tables.exec = Jvm.exec) (hZ : Z.Warmed39 s.vm) (hw : ∀ d ∈ tables_1, d.before a0 Z = true) (hby : c.code = code) (hml : c.maxLocals = 15) (hown : s.vm.findClass "com/example/restless_reasoner/restlessreasoner/engine/tableau/PremisesIsInequalityPinLaw" = some m.cls) (e0 : T0.heap = h0) (Z0 : n0 ≤ h0.size) (N0 : Fr n0 locs) (V_o8 : Arv Z h0 o8 k_o8 .int z_o8 vs_o8 (.int (0 : Int32))) (hv_o8 : (1 : Int32) < z_o8 → vs_o8.getD 1 (.int (0 : Int32)) = .int w_o8) (hc108 : ¬ (i5 < (3 : Int32))) (hc115 : ¬ (i7 = (-3 : Int32))) (hc132 : (own_isne z_o8 w_o8) = (0 : Int32)) :
    ∃ (T' : State) (h' : Heap) (locs' : List Loc), Stand p l e room_1 s m args below meth c T' locs' 1 5 ∧ T'.heap = h' ∧ Fr n0 locs' ∧ Keep h0 h' [] ∧
      ∀ target, Steps p.tables e below (T'.setTop (mkF m 142 #[.val (.int i0), .val (.int i1), .val (.int i2), .val (.int i3), .val (.int i4), .val (.int i5), .val (.int i6), .val (.int i7), .val (.ref o8), .val (.int (0 : Int32)), .val (.int (1 : Int32)), .unset, .unset, .unset, .unset] [])) target → Steps p.tables e below (T0.setTop (mkF m 105 #[.val (.int i0), .val (.int i1), .val (.int i2), .val (.int i3), .val (.int i4), .val (.int i5), .val (.int i6), .val (.int i7), .val (.ref o8), .unset, .unset, .unset, .unset, .unset, .unset] [])) target := by
  have VA6_o8 := V_o8
  obtain ⟨_, _, ⟨T6, L6, k6, n6⟩, -, X6, ⟨Lc6, hQ6, l6, y6, z6⟩, st6⟩ := Jvm.LawKit.callS X0 hx (y := (⟨"com/example/restless_reasoner/restlessreasoner/engine/tableau/Premises", "isInequality", "([I)Z"⟩ : MethodName)) hown (mvT hZ (hw _ (List.mem_of_getElem? (i := 2) rfl))) (mvT hZ (hw _ (List.mem_of_getElem? (i := 3) rfl))) (mvT hZ (hw _ (List.mem_of_getElem? (i := 4) rfl))) (mvT hZ (hw _ (List.mem_of_getElem? (i := 5) rfl))) (by decide) (backOf (W := 0) (rm1 l Z a0 hw [] o8 k_o8 z_o8 vs_o8 w_o8 h0 n0 Z0 VA6_o8 hv_o8) hZ (hw _ (List.mem_of_getElem? (i := 5) rfl)) (hw _ (List.mem_of_getElem? (i := 4) rfl)) (by decide) (by decide)) (g := (mkF m 127 #[.val (.int i0), .val (.int i1), .val (.int i2), .val (.int i3), .val (.int i4), .val (.int i5), .val (.int i6), .val (.int i7), .val (.ref o8), .val (.int (0 : Int32)), .unset, .unset, .unset, .unset, .unset] [(.ref o8)])) rfl (by rw [hml]; rfl) (argsL := [(.ref o8)]) (rest := []) (lenOf pd_0_0 rfl) rfl (by show 2 * 0 + _ ≤ _; exact Nat.le_of_eq rfl) (hb hby at_127) (fun _ _ => ⟨rfl, e0, (Nat.le_of_ble_eq_true rfl), (Nat.le_of_ble_eq_true rfl)⟩)
  dsimp only [Pt.U, Pt.locs, Pt.cells, Pt.slots] at X6 l6 y6 z6 st6 hQ6
  subst l6 y6 z6
  obtain ⟨rfl, N6q, h6q⟩ := hQ6
  have Kq6 : Keep h0 T6.heap [] := by rw [h6q]; exact Keep.refl _ _
  have K6 : Keep h0 T6.heap [] := (Keep.refl h0 []).trans Kq6 (fun _ q => nomatch q)
  have N6 := Fr.app N0 N6q
  refine ⟨T6, _, _, X6, rfl, N6, K6, fun target kt => ?_⟩
  show Steps p.tables e below (T0.setTop (mkF m 105 #[.val (.int i0), .val (.int i1), .val (.int i2), .val (.int i3), .val (.int i4), .val (.int i5), .val (.int i6), .val (.int i7), .val (.ref o8), .unset, .unset, .unset, .unset, .unset, .unset] [])) _
  refine XS.iload X0.here hx rfl (hb hby at_105) rfl ?_
  show Steps p.tables e below (T0.setTop (mkF m 107 #[.val (.int i0), .val (.int i1), .val (.int i2), .val (.int i3), .val (.int i4), .val (.int i5), .val (.int i6), .val (.int i7), .val (.ref o8), .unset, .unset, .unset, .unset, .unset, .unset] [(.int i5)])) _
  refine XS.iconst X0.here hx rfl (hb hby at_107) ?_
  show Steps p.tables e below (T0.setTop (mkF m 108 #[.val (.int i0), .val (.int i1), .val (.int i2), .val (.int i3), .val (.int i4), .val (.int i5), .val (.int i6), .val (.int i7), .val (.ref o8), .unset, .unset, .unset, .unset, .unset, .unset] [(.int (3 : Int32)), (.int i5)])) _
  refine XS.icmpNo X0.here hx rfl (hb hby at_108) rfl (flt hc108).1 ?_
  show Steps p.tables e below (T0.setTop (mkF m 111 #[.val (.int i0), .val (.int i1), .val (.int i2), .val (.int i3), .val (.int i4), .val (.int i5), .val (.int i6), .val (.int i7), .val (.ref o8), .unset, .unset, .unset, .unset, .unset, .unset] [])) _
  refine XS.iload X0.here hx rfl (hb hby at_111) rfl ?_
  show Steps p.tables e below (T0.setTop (mkF m 113 #[.val (.int i0), .val (.int i1), .val (.int i2), .val (.int i3), .val (.int i4), .val (.int i5), .val (.int i6), .val (.int i7), .val (.ref o8), .unset, .unset, .unset, .unset, .unset, .unset] [(.int i7)])) _
  refine XS.bipush X0.here hx rfl (hb hby at_113) ?_
  show Steps p.tables e below (T0.setTop (mkF m 115 #[.val (.int i0), .val (.int i1), .val (.int i2), .val (.int i3), .val (.int i4), .val (.int i5), .val (.int i6), .val (.int i7), .val (.ref o8), .unset, .unset, .unset, .unset, .unset, .unset] [(.int (-3 : Int32)), (.int i7)])) _
  refine XS.icmpYes X0.here hx rfl (pc0 := 115) (pc' := 122) rfl (hb hby at_115) rfl (feq hc115).2 (by decide) (by decide) ?_
  show Steps p.tables e below (T0.setTop (mkF m 122 #[.val (.int i0), .val (.int i1), .val (.int i2), .val (.int i3), .val (.int i4), .val (.int i5), .val (.int i6), .val (.int i7), .val (.ref o8), .unset, .unset, .unset, .unset, .unset, .unset] [])) _
  refine XS.iconst X0.here hx rfl (hb hby at_122) ?_
  show Steps p.tables e below (T0.setTop (mkF m 123 #[.val (.int i0), .val (.int i1), .val (.int i2), .val (.int i3), .val (.int i4), .val (.int i5), .val (.int i6), .val (.int i7), .val (.ref o8), .unset, .unset, .unset, .unset, .unset, .unset] [(.int (0 : Int32))])) _
  refine XS.istore X0.here hx rfl (hb hby at_123) rfl (l' := #[.val (.int i0), .val (.int i1), .val (.int i2), .val (.int i3), .val (.int i4), .val (.int i5), .val (.int i6), .val (.int i7), .val (.ref o8), .val (.int (0 : Int32)), .unset, .unset, .unset, .unset, .unset]) rfl ?_
  show Steps p.tables e below (T0.setTop (mkF m 125 #[.val (.int i0), .val (.int i1), .val (.int i2), .val (.int i3), .val (.int i4), .val (.int i5), .val (.int i6), .val (.int i7), .val (.ref o8), .val (.int (0 : Int32)), .unset, .unset, .unset, .unset, .unset] [])) _
  refine XS.aload X0.here hx rfl (hb hby at_125) rfl rfl ?_
  show Steps p.tables e below (T0.setTop (mkF m 127 #[.val (.int i0), .val (.int i1), .val (.int i2), .val (.int i3), .val (.int i4), .val (.int i5), .val (.int i6), .val (.int i7), .val (.ref o8), .val (.int (0 : Int32)), .unset, .unset, .unset, .unset, .unset] [(.ref o8)])) _
  refine st6 _ ?_
  show Steps p.tables e below (T6.setTop (mkF m 130 #[.val (.int i0), .val (.int i1), .val (.int i2), .val (.int i3), .val (.int i4), .val (.int i5), .val (.int i6), .val (.int i7), .val (.ref o8), .val (.int (0 : Int32)), .unset, .unset, .unset, .unset, .unset] [(.int (own_isne z_o8 w_o8))])) _
  refine XS.iload X6.here hx rfl (hb hby at_130) rfl ?_
  show Steps p.tables e below (T6.setTop (mkF m 132 #[.val (.int i0), .val (.int i1), .val (.int i2), .val (.int i3), .val (.int i4), .val (.int i5), .val (.int i6), .val (.int i7), .val (.ref o8), .val (.int (0 : Int32)), .unset, .unset, .unset, .unset, .unset] [(.int (0 : Int32)), (.int (own_isne z_o8 w_o8))])) _
  refine XS.icmpNo X6.here hx rfl (hb hby at_132) rfl (teq hc132).2 ?_
  show Steps p.tables e below (T6.setTop (mkF m 135 #[.val (.int i0), .val (.int i1), .val (.int i2), .val (.int i3), .val (.int i4), .val (.int i5), .val (.int i6), .val (.int i7), .val (.ref o8), .val (.int (0 : Int32)), .unset, .unset, .unset, .unset, .unset] [])) _
  refine XS.iconst X6.here hx rfl (hb hby at_135) ?_
  show Steps p.tables e below (T6.setTop (mkF m 136 #[.val (.int i0), .val (.int i1), .val (.int i2), .val (.int i3), .val (.int i4), .val (.int i5), .val (.int i6), .val (.int i7), .val (.ref o8), .val (.int (0 : Int32)), .unset, .unset, .unset, .unset, .unset] [(.int (1 : Int32))])) _
  refine XS.goto X6.here hx rfl (pc0 := 136) (pc' := 140) rfl (hb hby at_136) (by decide) (by decide) ?_
  show Steps p.tables e below (T6.setTop (mkF m 140 #[.val (.int i0), .val (.int i1), .val (.int i2), .val (.int i3), .val (.int i4), .val (.int i5), .val (.int i6), .val (.int i7), .val (.ref o8), .val (.int (0 : Int32)), .unset, .unset, .unset, .unset, .unset] [(.int (1 : Int32))])) _
  refine XS.istore X6.here hx rfl (hb hby at_140) rfl (l' := #[.val (.int i0), .val (.int i1), .val (.int i2), .val (.int i3), .val (.int i4), .val (.int i5), .val (.int i6), .val (.int i7), .val (.ref o8), .val (.int (0 : Int32)), .val (.int (1 : Int32)), .unset, .unset, .unset, .unset]) rfl ?_
  exact kt
set_option maxRecDepth 65536 in
set_option maxHeartbeats 40000000 in
theorem sgC_fff {p : Program} {l : Launch} {e : Env} {s : State} {m : MethodId} {args : Array Value} {below : List Frame} {meth : Method} {c : Code} {T0 : State} {locs : List Loc} {Z : State} {a0 : Array Value} {h0 : Heap} {n0 : Nat} (i0 : Int32) (i1 : Int32) (i2 : Int32) (i3 : Int32) (i4 : Int32) (i5 : Int32) (i6 : Int32) (i7 : Int32) (o8 : Addr) (k_o8 : ClassId) (z_o8 : Int32) (vs_o8 : List Value) (w_o8 : Int32)
    (X0 : Stand p l e room_1 s m args below meth c T0 locs 1 5) (hx : p.tables.exec = Jvm.exec) (hZ : Z.Warmed39 s.vm) (hw : ∀ d ∈ tables_1, d.before a0 Z = true) (hby : c.code = code) (hml : c.maxLocals = 15) (hown : s.vm.findClass "com/example/restless_reasoner/restlessreasoner/engine/tableau/PremisesIsInequalityPinLaw" = some m.cls) (e0 : T0.heap = h0) (Z0 : n0 ≤ h0.size) (N0 : Fr n0 locs) (V_o8 : Arv Z h0 o8 k_o8 .int z_o8 vs_o8 (.int (0 : Int32))) (hv_o8 : (1 : Int32) < z_o8 → vs_o8.getD 1 (.int (0 : Int32)) = .int w_o8) (hc108 : ¬ (i5 < (3 : Int32))) (hc115 : i7 = (-3 : Int32)) (hc132 : (own_isne z_o8 w_o8) = (1 : Int32)) :
    ∃ (T' : State) (h' : Heap) (locs' : List Loc), Stand p l e room_1 s m args below meth c T' locs' 1 5 ∧ T'.heap = h' ∧ Fr n0 locs' ∧ Keep h0 h' [] ∧
      ∀ target, Steps p.tables e below (T'.setTop (mkF m 142 #[.val (.int i0), .val (.int i1), .val (.int i2), .val (.int i3), .val (.int i4), .val (.int i5), .val (.int i6), .val (.int i7), .val (.ref o8), .val (.int (1 : Int32)), .val (.int (1 : Int32)), .unset, .unset, .unset, .unset] [])) target → Steps p.tables e below (T0.setTop (mkF m 105 #[.val (.int i0), .val (.int i1), .val (.int i2), .val (.int i3), .val (.int i4), .val (.int i5), .val (.int i6), .val (.int i7), .val (.ref o8), .unset, .unset, .unset, .unset, .unset, .unset] [])) target := by
  have VA6_o8 := V_o8
  obtain ⟨_, _, ⟨T6, L6, k6, n6⟩, -, X6, ⟨Lc6, hQ6, l6, y6, z6⟩, st6⟩ := Jvm.LawKit.callS X0 hx (y := (⟨"com/example/restless_reasoner/restlessreasoner/engine/tableau/Premises", "isInequality", "([I)Z"⟩ : MethodName)) hown (mvT hZ (hw _ (List.mem_of_getElem? (i := 2) rfl))) (mvT hZ (hw _ (List.mem_of_getElem? (i := 3) rfl))) (mvT hZ (hw _ (List.mem_of_getElem? (i := 4) rfl))) (mvT hZ (hw _ (List.mem_of_getElem? (i := 5) rfl))) (by decide) (backOf (W := 0) (rm1 l Z a0 hw [] o8 k_o8 z_o8 vs_o8 w_o8 h0 n0 Z0 VA6_o8 hv_o8) hZ (hw _ (List.mem_of_getElem? (i := 5) rfl)) (hw _ (List.mem_of_getElem? (i := 4) rfl)) (by decide) (by decide)) (g := (mkF m 127 #[.val (.int i0), .val (.int i1), .val (.int i2), .val (.int i3), .val (.int i4), .val (.int i5), .val (.int i6), .val (.int i7), .val (.ref o8), .val (.int (1 : Int32)), .unset, .unset, .unset, .unset, .unset] [(.ref o8)])) rfl (by rw [hml]; rfl) (argsL := [(.ref o8)]) (rest := []) (lenOf pd_0_0 rfl) rfl (by show 2 * 0 + _ ≤ _; exact Nat.le_of_eq rfl) (hb hby at_127) (fun _ _ => ⟨rfl, e0, (Nat.le_of_ble_eq_true rfl), (Nat.le_of_ble_eq_true rfl)⟩)
  dsimp only [Pt.U, Pt.locs, Pt.cells, Pt.slots] at X6 l6 y6 z6 st6 hQ6
  subst l6 y6 z6
  obtain ⟨rfl, N6q, h6q⟩ := hQ6
  have Kq6 : Keep h0 T6.heap [] := by rw [h6q]; exact Keep.refl _ _
  have K6 : Keep h0 T6.heap [] := (Keep.refl h0 []).trans Kq6 (fun _ q => nomatch q)
  have N6 := Fr.app N0 N6q
  refine ⟨T6, _, _, X6, rfl, N6, K6, fun target kt => ?_⟩
  show Steps p.tables e below (T0.setTop (mkF m 105 #[.val (.int i0), .val (.int i1), .val (.int i2), .val (.int i3), .val (.int i4), .val (.int i5), .val (.int i6), .val (.int i7), .val (.ref o8), .unset, .unset, .unset, .unset, .unset, .unset] [])) _
  refine XS.iload X0.here hx rfl (hb hby at_105) rfl ?_
  show Steps p.tables e below (T0.setTop (mkF m 107 #[.val (.int i0), .val (.int i1), .val (.int i2), .val (.int i3), .val (.int i4), .val (.int i5), .val (.int i6), .val (.int i7), .val (.ref o8), .unset, .unset, .unset, .unset, .unset, .unset] [(.int i5)])) _
  refine XS.iconst X0.here hx rfl (hb hby at_107) ?_
  show Steps p.tables e below (T0.setTop (mkF m 108 #[.val (.int i0), .val (.int i1), .val (.int i2), .val (.int i3), .val (.int i4), .val (.int i5), .val (.int i6), .val (.int i7), .val (.ref o8), .unset, .unset, .unset, .unset, .unset, .unset] [(.int (3 : Int32)), (.int i5)])) _
  refine XS.icmpNo X0.here hx rfl (hb hby at_108) rfl (flt hc108).1 ?_
  show Steps p.tables e below (T0.setTop (mkF m 111 #[.val (.int i0), .val (.int i1), .val (.int i2), .val (.int i3), .val (.int i4), .val (.int i5), .val (.int i6), .val (.int i7), .val (.ref o8), .unset, .unset, .unset, .unset, .unset, .unset] [])) _
  refine XS.iload X0.here hx rfl (hb hby at_111) rfl ?_
  show Steps p.tables e below (T0.setTop (mkF m 113 #[.val (.int i0), .val (.int i1), .val (.int i2), .val (.int i3), .val (.int i4), .val (.int i5), .val (.int i6), .val (.int i7), .val (.ref o8), .unset, .unset, .unset, .unset, .unset, .unset] [(.int i7)])) _
  refine XS.bipush X0.here hx rfl (hb hby at_113) ?_
  show Steps p.tables e below (T0.setTop (mkF m 115 #[.val (.int i0), .val (.int i1), .val (.int i2), .val (.int i3), .val (.int i4), .val (.int i5), .val (.int i6), .val (.int i7), .val (.ref o8), .unset, .unset, .unset, .unset, .unset, .unset] [(.int (-3 : Int32)), (.int i7)])) _
  refine XS.icmpNo X0.here hx rfl (hb hby at_115) rfl (teq hc115).2 ?_
  show Steps p.tables e below (T0.setTop (mkF m 118 #[.val (.int i0), .val (.int i1), .val (.int i2), .val (.int i3), .val (.int i4), .val (.int i5), .val (.int i6), .val (.int i7), .val (.ref o8), .unset, .unset, .unset, .unset, .unset, .unset] [])) _
  refine XS.iconst X0.here hx rfl (hb hby at_118) ?_
  show Steps p.tables e below (T0.setTop (mkF m 119 #[.val (.int i0), .val (.int i1), .val (.int i2), .val (.int i3), .val (.int i4), .val (.int i5), .val (.int i6), .val (.int i7), .val (.ref o8), .unset, .unset, .unset, .unset, .unset, .unset] [(.int (1 : Int32))])) _
  refine XS.goto X0.here hx rfl (pc0 := 119) (pc' := 123) rfl (hb hby at_119) (by decide) (by decide) ?_
  show Steps p.tables e below (T0.setTop (mkF m 123 #[.val (.int i0), .val (.int i1), .val (.int i2), .val (.int i3), .val (.int i4), .val (.int i5), .val (.int i6), .val (.int i7), .val (.ref o8), .unset, .unset, .unset, .unset, .unset, .unset] [(.int (1 : Int32))])) _
  refine XS.istore X0.here hx rfl (hb hby at_123) rfl (l' := #[.val (.int i0), .val (.int i1), .val (.int i2), .val (.int i3), .val (.int i4), .val (.int i5), .val (.int i6), .val (.int i7), .val (.ref o8), .val (.int (1 : Int32)), .unset, .unset, .unset, .unset, .unset]) rfl ?_
  show Steps p.tables e below (T0.setTop (mkF m 125 #[.val (.int i0), .val (.int i1), .val (.int i2), .val (.int i3), .val (.int i4), .val (.int i5), .val (.int i6), .val (.int i7), .val (.ref o8), .val (.int (1 : Int32)), .unset, .unset, .unset, .unset, .unset] [])) _
  refine XS.aload X0.here hx rfl (hb hby at_125) rfl rfl ?_
  show Steps p.tables e below (T0.setTop (mkF m 127 #[.val (.int i0), .val (.int i1), .val (.int i2), .val (.int i3), .val (.int i4), .val (.int i5), .val (.int i6), .val (.int i7), .val (.ref o8), .val (.int (1 : Int32)), .unset, .unset, .unset, .unset, .unset] [(.ref o8)])) _
  refine st6 _ ?_
  show Steps p.tables e below (T6.setTop (mkF m 130 #[.val (.int i0), .val (.int i1), .val (.int i2), .val (.int i3), .val (.int i4), .val (.int i5), .val (.int i6), .val (.int i7), .val (.ref o8), .val (.int (1 : Int32)), .unset, .unset, .unset, .unset, .unset] [(.int (own_isne z_o8 w_o8))])) _
  refine XS.iload X6.here hx rfl (hb hby at_130) rfl ?_
  show Steps p.tables e below (T6.setTop (mkF m 132 #[.val (.int i0), .val (.int i1), .val (.int i2), .val (.int i3), .val (.int i4), .val (.int i5), .val (.int i6), .val (.int i7), .val (.ref o8), .val (.int (1 : Int32)), .unset, .unset, .unset, .unset, .unset] [(.int (1 : Int32)), (.int (own_isne z_o8 w_o8))])) _
  refine XS.icmpNo X6.here hx rfl (hb hby at_132) rfl (teq hc132).2 ?_
  show Steps p.tables e below (T6.setTop (mkF m 135 #[.val (.int i0), .val (.int i1), .val (.int i2), .val (.int i3), .val (.int i4), .val (.int i5), .val (.int i6), .val (.int i7), .val (.ref o8), .val (.int (1 : Int32)), .unset, .unset, .unset, .unset, .unset] [])) _
  refine XS.iconst X6.here hx rfl (hb hby at_135) ?_
  show Steps p.tables e below (T6.setTop (mkF m 136 #[.val (.int i0), .val (.int i1), .val (.int i2), .val (.int i3), .val (.int i4), .val (.int i5), .val (.int i6), .val (.int i7), .val (.ref o8), .val (.int (1 : Int32)), .unset, .unset, .unset, .unset, .unset] [(.int (1 : Int32))])) _
  refine XS.goto X6.here hx rfl (pc0 := 136) (pc' := 140) rfl (hb hby at_136) (by decide) (by decide) ?_
  show Steps p.tables e below (T6.setTop (mkF m 140 #[.val (.int i0), .val (.int i1), .val (.int i2), .val (.int i3), .val (.int i4), .val (.int i5), .val (.int i6), .val (.int i7), .val (.ref o8), .val (.int (1 : Int32)), .unset, .unset, .unset, .unset, .unset] [(.int (1 : Int32))])) _
  refine XS.istore X6.here hx rfl (hb hby at_140) rfl (l' := #[.val (.int i0), .val (.int i1), .val (.int i2), .val (.int i3), .val (.int i4), .val (.int i5), .val (.int i6), .val (.int i7), .val (.ref o8), .val (.int (1 : Int32)), .val (.int (1 : Int32)), .unset, .unset, .unset, .unset]) rfl ?_
  exact kt
set_option maxRecDepth 65536 in
set_option maxHeartbeats 40000000 in
theorem sgC {p : Program} {l : Launch} {e : Env} {s : State} {m : MethodId} {args : Array Value} {below : List Frame} {meth : Method} {c : Code} {T0 : State} {locs : List Loc} {Z : State} {a0 : Array Value} {h0 : Heap} {n0 : Nat} (i0 : Int32) (i1 : Int32) (i2 : Int32) (i3 : Int32) (i4 : Int32) (i5 : Int32) (i6 : Int32) (i7 : Int32) (o8 : Addr) (k_o8 : ClassId) (vs_o8 : List Value)
    (X0 : Stand p l e room_1 s m args below meth c T0 locs 1 5) (hx : p.tables.exec = Jvm.exec) (hZ : Z.Warmed39 s.vm) (hw : ∀ d ∈ tables_1, d.before a0 Z = true) (hby : c.code = code) (hml : c.maxLocals = 15) (hown : s.vm.findClass "com/example/restless_reasoner/restlessreasoner/engine/tableau/PremisesIsInequalityPinLaw" = some m.cls) (e0 : T0.heap = h0) (Z0 : n0 ≤ h0.size) (N0 : Fr n0 locs) (V : Arv Z h0 o8 k_o8 .int i5 vs_o8 (.int (0 : Int32))) (hv : (1 : Int32) < i5 → vs_o8.getD 1 (.int (0 : Int32)) = .int i7) :
    ∃ (T' : State) (h' : Heap) (locs' : List Loc) (y : Int32), Stand p l e room_1 s m args below meth c T' locs' 1 5 ∧ T'.heap = h' ∧ Fr n0 locs' ∧ Keep h0 h' [] ∧
      ∀ target, Steps p.tables e below (T'.setTop (mkF m 142 #[.val (.int i0), .val (.int i1), .val (.int i2), .val (.int i3), .val (.int i4), .val (.int i5), .val (.int i6), .val (.int i7), .val (.ref o8), .val (.int y), .val (.int (1 : Int32)), .unset, .unset, .unset, .unset] [])) target → Steps p.tables e below (T0.setTop (mkF m 105 #[.val (.int i0), .val (.int i1), .val (.int i2), .val (.int i3), .val (.int i4), .val (.int i5), .val (.int i6), .val (.int i7), .val (.ref o8), .unset, .unset, .unset, .unset, .unset, .unset] [])) target := by
  by_cases h3 : i5 < (3 : Int32)
  · obtain ⟨T', h', locs', X', e', N', K', st⟩ := sgC_tf i0 i1 i2 i3 i4 i5 i6 i7 o8 k_o8 i5 vs_o8 i7 X0 hx hZ hw hby hml hown e0 Z0 N0 V hv h3 (own_c0 h3)
    exact ⟨T', h', locs', _, X', e', N', K', st⟩
  · by_cases h2 : i7 = (-3 : Int32)
    · obtain ⟨T', h', locs', X', e', N', K', st⟩ := sgC_fff i0 i1 i2 i3 i4 i5 i6 i7 o8 k_o8 i5 vs_o8 i7 X0 hx hZ hw hby hml hown e0 Z0 N0 V hv h3 h2 (own_c2 h3 h2)
      exact ⟨T', h', locs', _, X', e', N', K', st⟩
    · obtain ⟨T', h', locs', X', e', N', K', st⟩ := sgC_ftf i0 i1 i2 i3 i4 i5 i6 i7 o8 k_o8 i5 vs_o8 i7 X0 hx hZ hw hby hml hown e0 Z0 N0 V hv h3 h2 (own_c1 h3 h2)
      exact ⟨T', h', locs', _, X', e', N', K', st⟩
set_option maxRecDepth 65536 in
set_option maxHeartbeats 40000000 in
theorem sgD2 {p : Program} {l : Launch} {e : Env} {s : State} {m : MethodId} {args : Array Value} {below : List Frame} {meth : Method} {c : Code} {T0 : State} {locs : List Loc} {Z : State} {a0 : Array Value} {h0 : Heap} {n0 : Nat} (i0 : Int32) (i1 : Int32) (i2 : Int32) (i3 : Int32) (i4 : Int32) (i5 : Int32) (i6 : Int32) (i7 : Int32) (o8 : Addr) (i9 : Int32) (i10 : Int32)
    (X0 : Stand p l e room_1 s m args below meth c T0 locs 1 5) (hx : p.tables.exec = Jvm.exec) (hZ : Z.Warmed39 s.vm) (hw : ∀ d ∈ tables_1, d.before a0 Z = true) (hby : c.code = code) (hml : c.maxLocals = 15) (hown : s.vm.findClass "com/example/restless_reasoner/restlessreasoner/engine/tableau/PremisesIsInequalityPinLaw" = some m.cls) (e0 : T0.heap = h0) (Z0 : n0 ≤ h0.size) (N0 : Fr n0 locs) (hc155 : ((2 : Int32) + (((i0.toUInt32 >>> ((10 : Int32) &&& 31).toUInt32).toInt32) &&& (1 : Int32))) = (2 : Int32)) :
    ∃ (T' : State) (h' : Heap) (locs' : List Loc) (b6 : Addr) (k6 : ClassId), Stand p l e room_1 s m args below meth c T' locs' 2 8 ∧ T'.heap = h' ∧ Fr n0 locs' ∧ Keep h0 h' [] ∧ n0 ≤ b6 ∧ h0.size ≤ b6 ∧ Arv Z h' b6 k6 .int (2 : Int32) [(.int i1), (.int i3)] (.int (0 : Int32)) ∧
      ∀ target, Steps p.tables e below (T'.setTop (mkF m 190 #[.val (.int i0), .val (.int i1), .val (.int i2), .val (.int i3), .val (.int i4), .val (.int i5), .val (.int i6), .val (.int i7), .val (.ref o8), .val (.int i9), .val (.int i10), .val (.int ((2 : Int32) + (((i0.toUInt32 >>> ((10 : Int32) &&& 31).toUInt32).toInt32) &&& (1 : Int32)))), .val (.ref b6), .unset, .unset] [])) target → Steps p.tables e below (T0.setTop (mkF m 142 #[.val (.int i0), .val (.int i1), .val (.int i2), .val (.int i3), .val (.int i4), .val (.int i5), .val (.int i6), .val (.int i7), .val (.ref o8), .val (.int i9), .val (.int i10), .unset, .unset, .unset, .unset] [])) target := by
  obtain ⟨T6, h6, k6, X6, e6, E6, A6, st6⟩ := newP X0 hx hZ (hw _ (List.mem_of_getElem? (i := 1) rfl)) e0 (g := (mkF m 159 #[.val (.int i0), .val (.int i1), .val (.int i2), .val (.int i3), .val (.int i4), .val (.int i5), .val (.int i6), .val (.int i7), .val (.ref o8), .val (.int i9), .val (.int i10), .val (.int ((2 : Int32) + (((i0.toUInt32 >>> ((10 : Int32) &&& 31).toUInt32).toInt32) &&& (1 : Int32)))), .unset, .unset, .unset] [(.int (2 : Int32))])) rfl (hb hby at_159) rfl (by decide) (cap := 3) (by decide) (by decide) (by decide) (by decide)
  obtain ⟨b6, g6⟩ : ∃ z, z = h0.size := ⟨_, rfl⟩
  rw [← g6] at A6 st6
  have V_b6 : Arv Z h6 b6 k6 .int (2 : Int32) [(.int (0 : Int32)), (.int (0 : Int32))] (.int (0 : Int32)) := (Arv.new A6 (by decide)).pad (pad_rep [] (.int (0 : Int32)) 2)
  have g_b6 : n0 ≤ b6 := Nat.le_trans Z0 (Nat.le_of_eq g6.symm)
  have sz_b6 : h0.size ≤ b6 := (Nat.le_trans (Keep.refl h0 []).1 (Nat.le_of_eq g6.symm))
  have K6 : Keep h0 h6 [] := (Keep.refl h0 []).ext E6
  obtain ⟨cl_b6_164, Ar_b6, q_b6, S_b6, N_b6, H_b6, G_b6⟩ := V_b6
  have hin164 : ¬ ((0 : Int32) < 0 ∨ cl_b6_164.slots.size ≤ ((0 : Int32)).toNatClampNeg) := inb_of S_b6 ⟨by decide, by decide⟩
  obtain ⟨T7, h7, X7, e7, W7, st7⟩ := stI X6 hx hZ e6 Ar_b6 (j := (0 : Int32)) hin164 (g := (mkF m 164 #[.val (.int i0), .val (.int i1), .val (.int i2), .val (.int i3), .val (.int i4), .val (.int i5), .val (.int i6), .val (.int i7), .val (.ref o8), .val (.int i9), .val (.int i10), .val (.int ((2 : Int32) + (((i0.toUInt32 >>> ((10 : Int32) &&& 31).toUInt32).toInt32) &&& (1 : Int32)))), .unset, .unset, .unset] [(.int i1), (.int (0 : Int32)), (.ref b6), (.ref b6)])) rfl rfl (hb hby at_164)
  have V_b6_7 := Arv.set Ar_b6 q_b6 S_b6 N_b6 H_b6 G_b6 rfl W7 0 rfl (Nat.le_of_ble_eq_true rfl)
  have K7 : Keep h0 h7 [] := K6.wr W7 (Or.inr sz_b6)
  have N7 := Fr.snoc X7 N0 g_b6
  obtain ⟨cl_b6_168, Ar_b6, q_b6, S_b6, N_b6, H_b6, G_b6⟩ := V_b6_7
  have hin168 : ¬ ((1 : Int32) < 0 ∨ cl_b6_168.slots.size ≤ ((1 : Int32)).toNatClampNeg) := inb_of S_b6 ⟨by decide, by decide⟩
  obtain ⟨T8, h8, X8, e8, W8, st8⟩ := stI X7 hx hZ e7 Ar_b6 (j := (1 : Int32)) hin168 (g := (mkF m 168 #[.val (.int i0), .val (.int i1), .val (.int i2), .val (.int i3), .val (.int i4), .val (.int i5), .val (.int i6), .val (.int i7), .val (.ref o8), .val (.int i9), .val (.int i10), .val (.int ((2 : Int32) + (((i0.toUInt32 >>> ((10 : Int32) &&& 31).toUInt32).toInt32) &&& (1 : Int32)))), .unset, .unset, .unset] [(.int i3), (.int (1 : Int32)), (.ref b6), (.ref b6)])) rfl rfl (hb hby at_168)
  have V_b6_8 := Arv.set Ar_b6 q_b6 S_b6 N_b6 H_b6 G_b6 rfl W8 1 rfl (Nat.le_of_ble_eq_true rfl)
  have K8 : Keep h0 h8 [] := K7.wr W8 (Or.inr sz_b6)
  have N8 := Fr.snoc X8 N7 g_b6
  refine ⟨T8, _, _, b6, k6, X8, e8, N8, K8, g_b6, sz_b6, V_b6_8, fun target kt => ?_⟩
  show Steps p.tables e below (T0.setTop (mkF m 142 #[.val (.int i0), .val (.int i1), .val (.int i2), .val (.int i3), .val (.int i4), .val (.int i5), .val (.int i6), .val (.int i7), .val (.ref o8), .val (.int i9), .val (.int i10), .unset, .unset, .unset, .unset] [])) _
  refine XS.iconst X0.here hx rfl (hb hby at_142) ?_
  show Steps p.tables e below (T0.setTop (mkF m 143 #[.val (.int i0), .val (.int i1), .val (.int i2), .val (.int i3), .val (.int i4), .val (.int i5), .val (.int i6), .val (.int i7), .val (.ref o8), .val (.int i9), .val (.int i10), .unset, .unset, .unset, .unset] [(.int (2 : Int32))])) _
  refine XS.iloadN X0.here hx rfl (hb hby at_143) rfl ?_
  show Steps p.tables e below (T0.setTop (mkF m 144 #[.val (.int i0), .val (.int i1), .val (.int i2), .val (.int i3), .val (.int i4), .val (.int i5), .val (.int i6), .val (.int i7), .val (.ref o8), .val (.int i9), .val (.int i10), .unset, .unset, .unset, .unset] [(.int i0), (.int (2 : Int32))])) _
  refine XS.bipush X0.here hx rfl (hb hby at_144) ?_
  show Steps p.tables e below (T0.setTop (mkF m 146 #[.val (.int i0), .val (.int i1), .val (.int i2), .val (.int i3), .val (.int i4), .val (.int i5), .val (.int i6), .val (.int i7), .val (.ref o8), .val (.int i9), .val (.int i10), .unset, .unset, .unset, .unset] [(.int (10 : Int32)), (.int i0), (.int (2 : Int32))])) _
  refine XS.iushr X0.here hx rfl (hb hby at_146) rfl ?_
  show Steps p.tables e below (T0.setTop (mkF m 147 #[.val (.int i0), .val (.int i1), .val (.int i2), .val (.int i3), .val (.int i4), .val (.int i5), .val (.int i6), .val (.int i7), .val (.ref o8), .val (.int i9), .val (.int i10), .unset, .unset, .unset, .unset] [(.int ((i0.toUInt32 >>> ((10 : Int32) &&& 31).toUInt32).toInt32)), (.int (2 : Int32))])) _
  refine XS.iconst X0.here hx rfl (hb hby at_147) ?_
  show Steps p.tables e below (T0.setTop (mkF m 148 #[.val (.int i0), .val (.int i1), .val (.int i2), .val (.int i3), .val (.int i4), .val (.int i5), .val (.int i6), .val (.int i7), .val (.ref o8), .val (.int i9), .val (.int i10), .unset, .unset, .unset, .unset] [(.int (1 : Int32)), (.int ((i0.toUInt32 >>> ((10 : Int32) &&& 31).toUInt32).toInt32)), (.int (2 : Int32))])) _
  refine XS.iand X0.here hx rfl (hb hby at_148) rfl ?_
  show Steps p.tables e below (T0.setTop (mkF m 149 #[.val (.int i0), .val (.int i1), .val (.int i2), .val (.int i3), .val (.int i4), .val (.int i5), .val (.int i6), .val (.int i7), .val (.ref o8), .val (.int i9), .val (.int i10), .unset, .unset, .unset, .unset] [(.int (((i0.toUInt32 >>> ((10 : Int32) &&& 31).toUInt32).toInt32) &&& (1 : Int32))), (.int (2 : Int32))])) _
  refine XS.iadd X0.here hx rfl (hb hby at_149) rfl ?_
  show Steps p.tables e below (T0.setTop (mkF m 150 #[.val (.int i0), .val (.int i1), .val (.int i2), .val (.int i3), .val (.int i4), .val (.int i5), .val (.int i6), .val (.int i7), .val (.ref o8), .val (.int i9), .val (.int i10), .unset, .unset, .unset, .unset] [(.int ((2 : Int32) + (((i0.toUInt32 >>> ((10 : Int32) &&& 31).toUInt32).toInt32) &&& (1 : Int32))))])) _
  refine XS.istore X0.here hx rfl (hb hby at_150) rfl (l' := #[.val (.int i0), .val (.int i1), .val (.int i2), .val (.int i3), .val (.int i4), .val (.int i5), .val (.int i6), .val (.int i7), .val (.ref o8), .val (.int i9), .val (.int i10), .val (.int ((2 : Int32) + (((i0.toUInt32 >>> ((10 : Int32) &&& 31).toUInt32).toInt32) &&& (1 : Int32)))), .unset, .unset, .unset]) rfl ?_
  show Steps p.tables e below (T0.setTop (mkF m 152 #[.val (.int i0), .val (.int i1), .val (.int i2), .val (.int i3), .val (.int i4), .val (.int i5), .val (.int i6), .val (.int i7), .val (.ref o8), .val (.int i9), .val (.int i10), .val (.int ((2 : Int32) + (((i0.toUInt32 >>> ((10 : Int32) &&& 31).toUInt32).toInt32) &&& (1 : Int32)))), .unset, .unset, .unset] [])) _
  refine XS.iload X0.here hx rfl (hb hby at_152) rfl ?_
  show Steps p.tables e below (T0.setTop (mkF m 154 #[.val (.int i0), .val (.int i1), .val (.int i2), .val (.int i3), .val (.int i4), .val (.int i5), .val (.int i6), .val (.int i7), .val (.ref o8), .val (.int i9), .val (.int i10), .val (.int ((2 : Int32) + (((i0.toUInt32 >>> ((10 : Int32) &&& 31).toUInt32).toInt32) &&& (1 : Int32)))), .unset, .unset, .unset] [(.int ((2 : Int32) + (((i0.toUInt32 >>> ((10 : Int32) &&& 31).toUInt32).toInt32) &&& (1 : Int32))))])) _
  refine XS.iconst X0.here hx rfl (hb hby at_154) ?_
  show Steps p.tables e below (T0.setTop (mkF m 155 #[.val (.int i0), .val (.int i1), .val (.int i2), .val (.int i3), .val (.int i4), .val (.int i5), .val (.int i6), .val (.int i7), .val (.ref o8), .val (.int i9), .val (.int i10), .val (.int ((2 : Int32) + (((i0.toUInt32 >>> ((10 : Int32) &&& 31).toUInt32).toInt32) &&& (1 : Int32)))), .unset, .unset, .unset] [(.int (2 : Int32)), (.int ((2 : Int32) + (((i0.toUInt32 >>> ((10 : Int32) &&& 31).toUInt32).toInt32) &&& (1 : Int32))))])) _
  refine XS.icmpNo X0.here hx rfl (hb hby at_155) rfl (teq hc155).2 ?_
  show Steps p.tables e below (T0.setTop (mkF m 158 #[.val (.int i0), .val (.int i1), .val (.int i2), .val (.int i3), .val (.int i4), .val (.int i5), .val (.int i6), .val (.int i7), .val (.ref o8), .val (.int i9), .val (.int i10), .val (.int ((2 : Int32) + (((i0.toUInt32 >>> ((10 : Int32) &&& 31).toUInt32).toInt32) &&& (1 : Int32)))), .unset, .unset, .unset] [])) _
  refine XS.iconst X0.here hx rfl (hb hby at_158) ?_
  show Steps p.tables e below (T0.setTop (mkF m 159 #[.val (.int i0), .val (.int i1), .val (.int i2), .val (.int i3), .val (.int i4), .val (.int i5), .val (.int i6), .val (.int i7), .val (.ref o8), .val (.int i9), .val (.int i10), .val (.int ((2 : Int32) + (((i0.toUInt32 >>> ((10 : Int32) &&& 31).toUInt32).toInt32) &&& (1 : Int32)))), .unset, .unset, .unset] [(.int (2 : Int32))])) _
  refine st6 _ ?_
  show Steps p.tables e below (T6.setTop (mkF m 161 #[.val (.int i0), .val (.int i1), .val (.int i2), .val (.int i3), .val (.int i4), .val (.int i5), .val (.int i6), .val (.int i7), .val (.ref o8), .val (.int i9), .val (.int i10), .val (.int ((2 : Int32) + (((i0.toUInt32 >>> ((10 : Int32) &&& 31).toUInt32).toInt32) &&& (1 : Int32)))), .unset, .unset, .unset] [(.ref b6)])) _
  refine XS.dup X6.here hx rfl (hb hby at_161) rfl rfl ?_
  show Steps p.tables e below (T6.setTop (mkF m 162 #[.val (.int i0), .val (.int i1), .val (.int i2), .val (.int i3), .val (.int i4), .val (.int i5), .val (.int i6), .val (.int i7), .val (.ref o8), .val (.int i9), .val (.int i10), .val (.int ((2 : Int32) + (((i0.toUInt32 >>> ((10 : Int32) &&& 31).toUInt32).toInt32) &&& (1 : Int32)))), .unset, .unset, .unset] [(.ref b6), (.ref b6)])) _
  refine XS.iconst X6.here hx rfl (hb hby at_162) ?_
  show Steps p.tables e below (T6.setTop (mkF m 163 #[.val (.int i0), .val (.int i1), .val (.int i2), .val (.int i3), .val (.int i4), .val (.int i5), .val (.int i6), .val (.int i7), .val (.ref o8), .val (.int i9), .val (.int i10), .val (.int ((2 : Int32) + (((i0.toUInt32 >>> ((10 : Int32) &&& 31).toUInt32).toInt32) &&& (1 : Int32)))), .unset, .unset, .unset] [(.int (0 : Int32)), (.ref b6), (.ref b6)])) _
  refine XS.iloadN X6.here hx rfl (hb hby at_163) rfl ?_
  show Steps p.tables e below (T6.setTop (mkF m 164 #[.val (.int i0), .val (.int i1), .val (.int i2), .val (.int i3), .val (.int i4), .val (.int i5), .val (.int i6), .val (.int i7), .val (.ref o8), .val (.int i9), .val (.int i10), .val (.int ((2 : Int32) + (((i0.toUInt32 >>> ((10 : Int32) &&& 31).toUInt32).toInt32) &&& (1 : Int32)))), .unset, .unset, .unset] [(.int i1), (.int (0 : Int32)), (.ref b6), (.ref b6)])) _
  refine st7 _ ?_
  show Steps p.tables e below (T7.setTop (mkF m 165 #[.val (.int i0), .val (.int i1), .val (.int i2), .val (.int i3), .val (.int i4), .val (.int i5), .val (.int i6), .val (.int i7), .val (.ref o8), .val (.int i9), .val (.int i10), .val (.int ((2 : Int32) + (((i0.toUInt32 >>> ((10 : Int32) &&& 31).toUInt32).toInt32) &&& (1 : Int32)))), .unset, .unset, .unset] [(.ref b6)])) _
  refine XS.dup X7.here hx rfl (hb hby at_165) rfl rfl ?_
  show Steps p.tables e below (T7.setTop (mkF m 166 #[.val (.int i0), .val (.int i1), .val (.int i2), .val (.int i3), .val (.int i4), .val (.int i5), .val (.int i6), .val (.int i7), .val (.ref o8), .val (.int i9), .val (.int i10), .val (.int ((2 : Int32) + (((i0.toUInt32 >>> ((10 : Int32) &&& 31).toUInt32).toInt32) &&& (1 : Int32)))), .unset, .unset, .unset] [(.ref b6), (.ref b6)])) _
  refine XS.iconst X7.here hx rfl (hb hby at_166) ?_
  show Steps p.tables e below (T7.setTop (mkF m 167 #[.val (.int i0), .val (.int i1), .val (.int i2), .val (.int i3), .val (.int i4), .val (.int i5), .val (.int i6), .val (.int i7), .val (.ref o8), .val (.int i9), .val (.int i10), .val (.int ((2 : Int32) + (((i0.toUInt32 >>> ((10 : Int32) &&& 31).toUInt32).toInt32) &&& (1 : Int32)))), .unset, .unset, .unset] [(.int (1 : Int32)), (.ref b6), (.ref b6)])) _
  refine XS.iloadN X7.here hx rfl (hb hby at_167) rfl ?_
  show Steps p.tables e below (T7.setTop (mkF m 168 #[.val (.int i0), .val (.int i1), .val (.int i2), .val (.int i3), .val (.int i4), .val (.int i5), .val (.int i6), .val (.int i7), .val (.ref o8), .val (.int i9), .val (.int i10), .val (.int ((2 : Int32) + (((i0.toUInt32 >>> ((10 : Int32) &&& 31).toUInt32).toInt32) &&& (1 : Int32)))), .unset, .unset, .unset] [(.int i3), (.int (1 : Int32)), (.ref b6), (.ref b6)])) _
  refine st8 _ ?_
  show Steps p.tables e below (T8.setTop (mkF m 169 #[.val (.int i0), .val (.int i1), .val (.int i2), .val (.int i3), .val (.int i4), .val (.int i5), .val (.int i6), .val (.int i7), .val (.ref o8), .val (.int i9), .val (.int i10), .val (.int ((2 : Int32) + (((i0.toUInt32 >>> ((10 : Int32) &&& 31).toUInt32).toInt32) &&& (1 : Int32)))), .unset, .unset, .unset] [(.ref b6)])) _
  refine XS.goto X8.here hx rfl (pc0 := 169) (pc' := 188) rfl (hb hby at_169) (by decide) (by decide) ?_
  show Steps p.tables e below (T8.setTop (mkF m 188 #[.val (.int i0), .val (.int i1), .val (.int i2), .val (.int i3), .val (.int i4), .val (.int i5), .val (.int i6), .val (.int i7), .val (.ref o8), .val (.int i9), .val (.int i10), .val (.int ((2 : Int32) + (((i0.toUInt32 >>> ((10 : Int32) &&& 31).toUInt32).toInt32) &&& (1 : Int32)))), .unset, .unset, .unset] [(.ref b6)])) _
  refine XS.astore X8.here hx rfl (hb hby at_188) rfl rfl (l' := #[.val (.int i0), .val (.int i1), .val (.int i2), .val (.int i3), .val (.int i4), .val (.int i5), .val (.int i6), .val (.int i7), .val (.ref o8), .val (.int i9), .val (.int i10), .val (.int ((2 : Int32) + (((i0.toUInt32 >>> ((10 : Int32) &&& 31).toUInt32).toInt32) &&& (1 : Int32)))), .val (.ref b6), .unset, .unset]) rfl ?_
  exact kt
set_option maxRecDepth 65536 in
set_option maxHeartbeats 40000000 in
theorem sgD3 {p : Program} {l : Launch} {e : Env} {s : State} {m : MethodId} {args : Array Value} {below : List Frame} {meth : Method} {c : Code} {T0 : State} {locs : List Loc} {Z : State} {a0 : Array Value} {h0 : Heap} {n0 : Nat} (i0 : Int32) (i1 : Int32) (i2 : Int32) (i3 : Int32) (i4 : Int32) (i5 : Int32) (i6 : Int32) (i7 : Int32) (o8 : Addr) (i9 : Int32) (i10 : Int32)
    (X0 : Stand p l e room_1 s m args below meth c T0 locs 1 5) (hx : p.tables.exec = Jvm.exec) (hZ : Z.Warmed39 s.vm) (hw : ∀ d ∈ tables_1, d.before a0 Z = true) (hby : c.code = code) (hml : c.maxLocals = 15) (hown : s.vm.findClass "com/example/restless_reasoner/restlessreasoner/engine/tableau/PremisesIsInequalityPinLaw" = some m.cls) (e0 : T0.heap = h0) (Z0 : n0 ≤ h0.size) (N0 : Fr n0 locs) (hc155 : ¬ (((2 : Int32) + (((i0.toUInt32 >>> ((10 : Int32) &&& 31).toUInt32).toInt32) &&& (1 : Int32))) = (2 : Int32))) :
    ∃ (T' : State) (h' : Heap) (locs' : List Loc) (b6 : Addr) (k6 : ClassId), Stand p l e room_1 s m args below meth c T' locs' 2 8 ∧ T'.heap = h' ∧ Fr n0 locs' ∧ Keep h0 h' [] ∧ n0 ≤ b6 ∧ h0.size ≤ b6 ∧ Arv Z h' b6 k6 .int (3 : Int32) [(.int i1), (.int i3), (.int i4)] (.int (0 : Int32)) ∧
      ∀ target, Steps p.tables e below (T'.setTop (mkF m 190 #[.val (.int i0), .val (.int i1), .val (.int i2), .val (.int i3), .val (.int i4), .val (.int i5), .val (.int i6), .val (.int i7), .val (.ref o8), .val (.int i9), .val (.int i10), .val (.int ((2 : Int32) + (((i0.toUInt32 >>> ((10 : Int32) &&& 31).toUInt32).toInt32) &&& (1 : Int32)))), .val (.ref b6), .unset, .unset] [])) target → Steps p.tables e below (T0.setTop (mkF m 142 #[.val (.int i0), .val (.int i1), .val (.int i2), .val (.int i3), .val (.int i4), .val (.int i5), .val (.int i6), .val (.int i7), .val (.ref o8), .val (.int i9), .val (.int i10), .unset, .unset, .unset, .unset] [])) target := by
  obtain ⟨T6, h6, k6, X6, e6, E6, A6, st6⟩ := newP X0 hx hZ (hw _ (List.mem_of_getElem? (i := 1) rfl)) e0 (g := (mkF m 173 #[.val (.int i0), .val (.int i1), .val (.int i2), .val (.int i3), .val (.int i4), .val (.int i5), .val (.int i6), .val (.int i7), .val (.ref o8), .val (.int i9), .val (.int i10), .val (.int ((2 : Int32) + (((i0.toUInt32 >>> ((10 : Int32) &&& 31).toUInt32).toInt32) &&& (1 : Int32)))), .unset, .unset, .unset] [(.int (3 : Int32))])) rfl (hb hby at_173) rfl (by decide) (cap := 3) (by decide) (by decide) (by decide) (by decide)
  obtain ⟨b6, g6⟩ : ∃ z, z = h0.size := ⟨_, rfl⟩
  rw [← g6] at A6 st6
  have V_b6 : Arv Z h6 b6 k6 .int (3 : Int32) [(.int (0 : Int32)), (.int (0 : Int32)), (.int (0 : Int32))] (.int (0 : Int32)) := (Arv.new A6 (by decide)).pad (pad_rep [] (.int (0 : Int32)) 3)
  have g_b6 : n0 ≤ b6 := Nat.le_trans Z0 (Nat.le_of_eq g6.symm)
  have sz_b6 : h0.size ≤ b6 := (Nat.le_trans (Keep.refl h0 []).1 (Nat.le_of_eq g6.symm))
  have K6 : Keep h0 h6 [] := (Keep.refl h0 []).ext E6
  obtain ⟨cl_b6_178, Ar_b6, q_b6, S_b6, N_b6, H_b6, G_b6⟩ := V_b6
  have hin178 : ¬ ((0 : Int32) < 0 ∨ cl_b6_178.slots.size ≤ ((0 : Int32)).toNatClampNeg) := inb_of S_b6 ⟨by decide, by decide⟩
  obtain ⟨T7, h7, X7, e7, W7, st7⟩ := stI X6 hx hZ e6 Ar_b6 (j := (0 : Int32)) hin178 (g := (mkF m 178 #[.val (.int i0), .val (.int i1), .val (.int i2), .val (.int i3), .val (.int i4), .val (.int i5), .val (.int i6), .val (.int i7), .val (.ref o8), .val (.int i9), .val (.int i10), .val (.int ((2 : Int32) + (((i0.toUInt32 >>> ((10 : Int32) &&& 31).toUInt32).toInt32) &&& (1 : Int32)))), .unset, .unset, .unset] [(.int i1), (.int (0 : Int32)), (.ref b6), (.ref b6)])) rfl rfl (hb hby at_178)
  have V_b6_7 := Arv.set Ar_b6 q_b6 S_b6 N_b6 H_b6 G_b6 rfl W7 0 rfl (Nat.le_of_ble_eq_true rfl)
  have K7 : Keep h0 h7 [] := K6.wr W7 (Or.inr sz_b6)
  have N7 := Fr.snoc X7 N0 g_b6
  obtain ⟨cl_b6_182, Ar_b6, q_b6, S_b6, N_b6, H_b6, G_b6⟩ := V_b6_7
  have hin182 : ¬ ((1 : Int32) < 0 ∨ cl_b6_182.slots.size ≤ ((1 : Int32)).toNatClampNeg) := inb_of S_b6 ⟨by decide, by decide⟩
  obtain ⟨T8, h8, X8, e8, W8, st8⟩ := stI X7 hx hZ e7 Ar_b6 (j := (1 : Int32)) hin182 (g := (mkF m 182 #[.val (.int i0), .val (.int i1), .val (.int i2), .val (.int i3), .val (.int i4), .val (.int i5), .val (.int i6), .val (.int i7), .val (.ref o8), .val (.int i9), .val (.int i10), .val (.int ((2 : Int32) + (((i0.toUInt32 >>> ((10 : Int32) &&& 31).toUInt32).toInt32) &&& (1 : Int32)))), .unset, .unset, .unset] [(.int i3), (.int (1 : Int32)), (.ref b6), (.ref b6)])) rfl rfl (hb hby at_182)
  have V_b6_8 := Arv.set Ar_b6 q_b6 S_b6 N_b6 H_b6 G_b6 rfl W8 1 rfl (Nat.le_of_ble_eq_true rfl)
  have K8 : Keep h0 h8 [] := K7.wr W8 (Or.inr sz_b6)
  have N8 := Fr.snoc X8 N7 g_b6
  obtain ⟨cl_b6_187, Ar_b6, q_b6, S_b6, N_b6, H_b6, G_b6⟩ := V_b6_8
  have hin187 : ¬ ((2 : Int32) < 0 ∨ cl_b6_187.slots.size ≤ ((2 : Int32)).toNatClampNeg) := inb_of S_b6 ⟨by decide, by decide⟩
  obtain ⟨T9, h9, X9, e9, W9, st9⟩ := stI X8 hx hZ e8 Ar_b6 (j := (2 : Int32)) hin187 (g := (mkF m 187 #[.val (.int i0), .val (.int i1), .val (.int i2), .val (.int i3), .val (.int i4), .val (.int i5), .val (.int i6), .val (.int i7), .val (.ref o8), .val (.int i9), .val (.int i10), .val (.int ((2 : Int32) + (((i0.toUInt32 >>> ((10 : Int32) &&& 31).toUInt32).toInt32) &&& (1 : Int32)))), .unset, .unset, .unset] [(.int i4), (.int (2 : Int32)), (.ref b6), (.ref b6)])) rfl rfl (hb hby at_187)
  have V_b6_9 := Arv.set Ar_b6 q_b6 S_b6 N_b6 H_b6 G_b6 rfl W9 2 rfl (Nat.le_of_ble_eq_true rfl)
  have K9 : Keep h0 h9 [] := K8.wr W9 (Or.inr sz_b6)
  have N9 := Fr.snoc X9 N8 g_b6
  refine ⟨T9, _, _, b6, k6, X9, e9, N9, K9, g_b6, sz_b6, V_b6_9, fun target kt => ?_⟩
  show Steps p.tables e below (T0.setTop (mkF m 142 #[.val (.int i0), .val (.int i1), .val (.int i2), .val (.int i3), .val (.int i4), .val (.int i5), .val (.int i6), .val (.int i7), .val (.ref o8), .val (.int i9), .val (.int i10), .unset, .unset, .unset, .unset] [])) _
  refine XS.iconst X0.here hx rfl (hb hby at_142) ?_
  show Steps p.tables e below (T0.setTop (mkF m 143 #[.val (.int i0), .val (.int i1), .val (.int i2), .val (.int i3), .val (.int i4), .val (.int i5), .val (.int i6), .val (.int i7), .val (.ref o8), .val (.int i9), .val (.int i10), .unset, .unset, .unset, .unset] [(.int (2 : Int32))])) _
  refine XS.iloadN X0.here hx rfl (hb hby at_143) rfl ?_
  show Steps p.tables e below (T0.setTop (mkF m 144 #[.val (.int i0), .val (.int i1), .val (.int i2), .val (.int i3), .val (.int i4), .val (.int i5), .val (.int i6), .val (.int i7), .val (.ref o8), .val (.int i9), .val (.int i10), .unset, .unset, .unset, .unset] [(.int i0), (.int (2 : Int32))])) _
  refine XS.bipush X0.here hx rfl (hb hby at_144) ?_
  show Steps p.tables e below (T0.setTop (mkF m 146 #[.val (.int i0), .val (.int i1), .val (.int i2), .val (.int i3), .val (.int i4), .val (.int i5), .val (.int i6), .val (.int i7), .val (.ref o8), .val (.int i9), .val (.int i10), .unset, .unset, .unset, .unset] [(.int (10 : Int32)), (.int i0), (.int (2 : Int32))])) _
  refine XS.iushr X0.here hx rfl (hb hby at_146) rfl ?_
  show Steps p.tables e below (T0.setTop (mkF m 147 #[.val (.int i0), .val (.int i1), .val (.int i2), .val (.int i3), .val (.int i4), .val (.int i5), .val (.int i6), .val (.int i7), .val (.ref o8), .val (.int i9), .val (.int i10), .unset, .unset, .unset, .unset] [(.int ((i0.toUInt32 >>> ((10 : Int32) &&& 31).toUInt32).toInt32)), (.int (2 : Int32))])) _
  refine XS.iconst X0.here hx rfl (hb hby at_147) ?_
  show Steps p.tables e below (T0.setTop (mkF m 148 #[.val (.int i0), .val (.int i1), .val (.int i2), .val (.int i3), .val (.int i4), .val (.int i5), .val (.int i6), .val (.int i7), .val (.ref o8), .val (.int i9), .val (.int i10), .unset, .unset, .unset, .unset] [(.int (1 : Int32)), (.int ((i0.toUInt32 >>> ((10 : Int32) &&& 31).toUInt32).toInt32)), (.int (2 : Int32))])) _
  refine XS.iand X0.here hx rfl (hb hby at_148) rfl ?_
  show Steps p.tables e below (T0.setTop (mkF m 149 #[.val (.int i0), .val (.int i1), .val (.int i2), .val (.int i3), .val (.int i4), .val (.int i5), .val (.int i6), .val (.int i7), .val (.ref o8), .val (.int i9), .val (.int i10), .unset, .unset, .unset, .unset] [(.int (((i0.toUInt32 >>> ((10 : Int32) &&& 31).toUInt32).toInt32) &&& (1 : Int32))), (.int (2 : Int32))])) _
  refine XS.iadd X0.here hx rfl (hb hby at_149) rfl ?_
  show Steps p.tables e below (T0.setTop (mkF m 150 #[.val (.int i0), .val (.int i1), .val (.int i2), .val (.int i3), .val (.int i4), .val (.int i5), .val (.int i6), .val (.int i7), .val (.ref o8), .val (.int i9), .val (.int i10), .unset, .unset, .unset, .unset] [(.int ((2 : Int32) + (((i0.toUInt32 >>> ((10 : Int32) &&& 31).toUInt32).toInt32) &&& (1 : Int32))))])) _
  refine XS.istore X0.here hx rfl (hb hby at_150) rfl (l' := #[.val (.int i0), .val (.int i1), .val (.int i2), .val (.int i3), .val (.int i4), .val (.int i5), .val (.int i6), .val (.int i7), .val (.ref o8), .val (.int i9), .val (.int i10), .val (.int ((2 : Int32) + (((i0.toUInt32 >>> ((10 : Int32) &&& 31).toUInt32).toInt32) &&& (1 : Int32)))), .unset, .unset, .unset]) rfl ?_
  show Steps p.tables e below (T0.setTop (mkF m 152 #[.val (.int i0), .val (.int i1), .val (.int i2), .val (.int i3), .val (.int i4), .val (.int i5), .val (.int i6), .val (.int i7), .val (.ref o8), .val (.int i9), .val (.int i10), .val (.int ((2 : Int32) + (((i0.toUInt32 >>> ((10 : Int32) &&& 31).toUInt32).toInt32) &&& (1 : Int32)))), .unset, .unset, .unset] [])) _
  refine XS.iload X0.here hx rfl (hb hby at_152) rfl ?_
  show Steps p.tables e below (T0.setTop (mkF m 154 #[.val (.int i0), .val (.int i1), .val (.int i2), .val (.int i3), .val (.int i4), .val (.int i5), .val (.int i6), .val (.int i7), .val (.ref o8), .val (.int i9), .val (.int i10), .val (.int ((2 : Int32) + (((i0.toUInt32 >>> ((10 : Int32) &&& 31).toUInt32).toInt32) &&& (1 : Int32)))), .unset, .unset, .unset] [(.int ((2 : Int32) + (((i0.toUInt32 >>> ((10 : Int32) &&& 31).toUInt32).toInt32) &&& (1 : Int32))))])) _
  refine XS.iconst X0.here hx rfl (hb hby at_154) ?_
  show Steps p.tables e below (T0.setTop (mkF m 155 #[.val (.int i0), .val (.int i1), .val (.int i2), .val (.int i3), .val (.int i4), .val (.int i5), .val (.int i6), .val (.int i7), .val (.ref o8), .val (.int i9), .val (.int i10), .val (.int ((2 : Int32) + (((i0.toUInt32 >>> ((10 : Int32) &&& 31).toUInt32).toInt32) &&& (1 : Int32)))), .unset, .unset, .unset] [(.int (2 : Int32)), (.int ((2 : Int32) + (((i0.toUInt32 >>> ((10 : Int32) &&& 31).toUInt32).toInt32) &&& (1 : Int32))))])) _
  refine XS.icmpYes X0.here hx rfl (pc0 := 155) (pc' := 172) rfl (hb hby at_155) rfl (feq hc155).2 (by decide) (by decide) ?_
  show Steps p.tables e below (T0.setTop (mkF m 172 #[.val (.int i0), .val (.int i1), .val (.int i2), .val (.int i3), .val (.int i4), .val (.int i5), .val (.int i6), .val (.int i7), .val (.ref o8), .val (.int i9), .val (.int i10), .val (.int ((2 : Int32) + (((i0.toUInt32 >>> ((10 : Int32) &&& 31).toUInt32).toInt32) &&& (1 : Int32)))), .unset, .unset, .unset] [])) _
  refine XS.iconst X0.here hx rfl (hb hby at_172) ?_
  show Steps p.tables e below (T0.setTop (mkF m 173 #[.val (.int i0), .val (.int i1), .val (.int i2), .val (.int i3), .val (.int i4), .val (.int i5), .val (.int i6), .val (.int i7), .val (.ref o8), .val (.int i9), .val (.int i10), .val (.int ((2 : Int32) + (((i0.toUInt32 >>> ((10 : Int32) &&& 31).toUInt32).toInt32) &&& (1 : Int32)))), .unset, .unset, .unset] [(.int (3 : Int32))])) _
  refine st6 _ ?_
  show Steps p.tables e below (T6.setTop (mkF m 175 #[.val (.int i0), .val (.int i1), .val (.int i2), .val (.int i3), .val (.int i4), .val (.int i5), .val (.int i6), .val (.int i7), .val (.ref o8), .val (.int i9), .val (.int i10), .val (.int ((2 : Int32) + (((i0.toUInt32 >>> ((10 : Int32) &&& 31).toUInt32).toInt32) &&& (1 : Int32)))), .unset, .unset, .unset] [(.ref b6)])) _
  refine XS.dup X6.here hx rfl (hb hby at_175) rfl rfl ?_
  show Steps p.tables e below (T6.setTop (mkF m 176 #[.val (.int i0), .val (.int i1), .val (.int i2), .val (.int i3), .val (.int i4), .val (.int i5), .val (.int i6), .val (.int i7), .val (.ref o8), .val (.int i9), .val (.int i10), .val (.int ((2 : Int32) + (((i0.toUInt32 >>> ((10 : Int32) &&& 31).toUInt32).toInt32) &&& (1 : Int32)))), .unset, .unset, .unset] [(.ref b6), (.ref b6)])) _
  refine XS.iconst X6.here hx rfl (hb hby at_176) ?_
  show Steps p.tables e below (T6.setTop (mkF m 177 #[.val (.int i0), .val (.int i1), .val (.int i2), .val (.int i3), .val (.int i4), .val (.int i5), .val (.int i6), .val (.int i7), .val (.ref o8), .val (.int i9), .val (.int i10), .val (.int ((2 : Int32) + (((i0.toUInt32 >>> ((10 : Int32) &&& 31).toUInt32).toInt32) &&& (1 : Int32)))), .unset, .unset, .unset] [(.int (0 : Int32)), (.ref b6), (.ref b6)])) _
  refine XS.iloadN X6.here hx rfl (hb hby at_177) rfl ?_
  show Steps p.tables e below (T6.setTop (mkF m 178 #[.val (.int i0), .val (.int i1), .val (.int i2), .val (.int i3), .val (.int i4), .val (.int i5), .val (.int i6), .val (.int i7), .val (.ref o8), .val (.int i9), .val (.int i10), .val (.int ((2 : Int32) + (((i0.toUInt32 >>> ((10 : Int32) &&& 31).toUInt32).toInt32) &&& (1 : Int32)))), .unset, .unset, .unset] [(.int i1), (.int (0 : Int32)), (.ref b6), (.ref b6)])) _
  refine st7 _ ?_
  show Steps p.tables e below (T7.setTop (mkF m 179 #[.val (.int i0), .val (.int i1), .val (.int i2), .val (.int i3), .val (.int i4), .val (.int i5), .val (.int i6), .val (.int i7), .val (.ref o8), .val (.int i9), .val (.int i10), .val (.int ((2 : Int32) + (((i0.toUInt32 >>> ((10 : Int32) &&& 31).toUInt32).toInt32) &&& (1 : Int32)))), .unset, .unset, .unset] [(.ref b6)])) _
  refine XS.dup X7.here hx rfl (hb hby at_179) rfl rfl ?_
  show Steps p.tables e below (T7.setTop (mkF m 180 #[.val (.int i0), .val (.int i1), .val (.int i2), .val (.int i3), .val (.int i4), .val (.int i5), .val (.int i6), .val (.int i7), .val (.ref o8), .val (.int i9), .val (.int i10), .val (.int ((2 : Int32) + (((i0.toUInt32 >>> ((10 : Int32) &&& 31).toUInt32).toInt32) &&& (1 : Int32)))), .unset, .unset, .unset] [(.ref b6), (.ref b6)])) _
  refine XS.iconst X7.here hx rfl (hb hby at_180) ?_
  show Steps p.tables e below (T7.setTop (mkF m 181 #[.val (.int i0), .val (.int i1), .val (.int i2), .val (.int i3), .val (.int i4), .val (.int i5), .val (.int i6), .val (.int i7), .val (.ref o8), .val (.int i9), .val (.int i10), .val (.int ((2 : Int32) + (((i0.toUInt32 >>> ((10 : Int32) &&& 31).toUInt32).toInt32) &&& (1 : Int32)))), .unset, .unset, .unset] [(.int (1 : Int32)), (.ref b6), (.ref b6)])) _
  refine XS.iloadN X7.here hx rfl (hb hby at_181) rfl ?_
  show Steps p.tables e below (T7.setTop (mkF m 182 #[.val (.int i0), .val (.int i1), .val (.int i2), .val (.int i3), .val (.int i4), .val (.int i5), .val (.int i6), .val (.int i7), .val (.ref o8), .val (.int i9), .val (.int i10), .val (.int ((2 : Int32) + (((i0.toUInt32 >>> ((10 : Int32) &&& 31).toUInt32).toInt32) &&& (1 : Int32)))), .unset, .unset, .unset] [(.int i3), (.int (1 : Int32)), (.ref b6), (.ref b6)])) _
  refine st8 _ ?_
  show Steps p.tables e below (T8.setTop (mkF m 183 #[.val (.int i0), .val (.int i1), .val (.int i2), .val (.int i3), .val (.int i4), .val (.int i5), .val (.int i6), .val (.int i7), .val (.ref o8), .val (.int i9), .val (.int i10), .val (.int ((2 : Int32) + (((i0.toUInt32 >>> ((10 : Int32) &&& 31).toUInt32).toInt32) &&& (1 : Int32)))), .unset, .unset, .unset] [(.ref b6)])) _
  refine XS.dup X8.here hx rfl (hb hby at_183) rfl rfl ?_
  show Steps p.tables e below (T8.setTop (mkF m 184 #[.val (.int i0), .val (.int i1), .val (.int i2), .val (.int i3), .val (.int i4), .val (.int i5), .val (.int i6), .val (.int i7), .val (.ref o8), .val (.int i9), .val (.int i10), .val (.int ((2 : Int32) + (((i0.toUInt32 >>> ((10 : Int32) &&& 31).toUInt32).toInt32) &&& (1 : Int32)))), .unset, .unset, .unset] [(.ref b6), (.ref b6)])) _
  refine XS.iconst X8.here hx rfl (hb hby at_184) ?_
  show Steps p.tables e below (T8.setTop (mkF m 185 #[.val (.int i0), .val (.int i1), .val (.int i2), .val (.int i3), .val (.int i4), .val (.int i5), .val (.int i6), .val (.int i7), .val (.ref o8), .val (.int i9), .val (.int i10), .val (.int ((2 : Int32) + (((i0.toUInt32 >>> ((10 : Int32) &&& 31).toUInt32).toInt32) &&& (1 : Int32)))), .unset, .unset, .unset] [(.int (2 : Int32)), (.ref b6), (.ref b6)])) _
  refine XS.iload X8.here hx rfl (hb hby at_185) rfl ?_
  show Steps p.tables e below (T8.setTop (mkF m 187 #[.val (.int i0), .val (.int i1), .val (.int i2), .val (.int i3), .val (.int i4), .val (.int i5), .val (.int i6), .val (.int i7), .val (.ref o8), .val (.int i9), .val (.int i10), .val (.int ((2 : Int32) + (((i0.toUInt32 >>> ((10 : Int32) &&& 31).toUInt32).toInt32) &&& (1 : Int32)))), .unset, .unset, .unset] [(.int i4), (.int (2 : Int32)), (.ref b6), (.ref b6)])) _
  refine st9 _ ?_
  show Steps p.tables e below (T9.setTop (mkF m 188 #[.val (.int i0), .val (.int i1), .val (.int i2), .val (.int i3), .val (.int i4), .val (.int i5), .val (.int i6), .val (.int i7), .val (.ref o8), .val (.int i9), .val (.int i10), .val (.int ((2 : Int32) + (((i0.toUInt32 >>> ((10 : Int32) &&& 31).toUInt32).toInt32) &&& (1 : Int32)))), .unset, .unset, .unset] [(.ref b6)])) _
  refine XS.astore X9.here hx rfl (hb hby at_188) rfl rfl (l' := #[.val (.int i0), .val (.int i1), .val (.int i2), .val (.int i3), .val (.int i4), .val (.int i5), .val (.int i6), .val (.int i7), .val (.ref o8), .val (.int i9), .val (.int i10), .val (.int ((2 : Int32) + (((i0.toUInt32 >>> ((10 : Int32) &&& 31).toUInt32).toInt32) &&& (1 : Int32)))), .val (.ref b6), .unset, .unset]) rfl ?_
  exact kt
set_option maxRecDepth 65536 in
set_option maxHeartbeats 40000000 in
theorem sgD {p : Program} {l : Launch} {e : Env} {s : State} {m : MethodId} {args : Array Value} {below : List Frame} {meth : Method} {c : Code} {T0 : State} {locs : List Loc} {Z : State} {a0 : Array Value} {h0 : Heap} {n0 : Nat} (i0 : Int32) (i1 : Int32) (i2 : Int32) (i3 : Int32) (i4 : Int32) (i5 : Int32) (i6 : Int32) (i7 : Int32) (o8 : Addr) (i9 : Int32) (i10 : Int32)
    (X0 : Stand p l e room_1 s m args below meth c T0 locs 1 5) (hx : p.tables.exec = Jvm.exec) (hZ : Z.Warmed39 s.vm) (hw : ∀ d ∈ tables_1, d.before a0 Z = true) (hby : c.code = code) (hml : c.maxLocals = 15) (hown : s.vm.findClass "com/example/restless_reasoner/restlessreasoner/engine/tableau/PremisesIsInequalityPinLaw" = some m.cls) (e0 : T0.heap = h0) (Z0 : n0 ≤ h0.size) (N0 : Fr n0 locs) :
    ∃ (T' : State) (h' : Heap) (locs' : List Loc) (b : Addr) (k : ClassId) (z x2 : Int32), Stand p l e room_1 s m args below meth c T' locs' 2 8 ∧ T'.heap = h' ∧ Fr n0 locs' ∧ Keep h0 h' [] ∧ (z = (2 : Int32) ∨ z = (3 : Int32)) ∧ Arv Z h' b k .int z [(.int i1), (.int i3), (.int x2)] (.int (0 : Int32)) ∧
      ∀ target, Steps p.tables e below (T'.setTop (mkF m 190 #[.val (.int i0), .val (.int i1), .val (.int i2), .val (.int i3), .val (.int i4), .val (.int i5), .val (.int i6), .val (.int i7), .val (.ref o8), .val (.int i9), .val (.int i10), .val (.int ((2 : Int32) + (((i0.toUInt32 >>> ((10 : Int32) &&& 31).toUInt32).toInt32) &&& (1 : Int32)))), .val (.ref b), .unset, .unset] [])) target → Steps p.tables e below (T0.setTop (mkF m 142 #[.val (.int i0), .val (.int i1), .val (.int i2), .val (.int i3), .val (.int i4), .val (.int i5), .val (.int i6), .val (.int i7), .val (.ref o8), .val (.int i9), .val (.int i10), .unset, .unset, .unset, .unset] [])) target := by
  by_cases hq : ((2 : Int32) + (((i0.toUInt32 >>> ((10 : Int32) &&& 31).toUInt32).toInt32) &&& (1 : Int32))) = (2 : Int32)
  · obtain ⟨T', h', locs', b, k, X', e', N', K', g', s', V', st⟩ := sgD2 i0 i1 i2 i3 i4 i5 i6 i7 o8 i9 i10 X0 hx hZ hw hby hml hown e0 Z0 N0 hq
    exact ⟨T', h', locs', b, k, (2 : Int32), (0 : Int32), X', e', N', K', Or.inl rfl, V'.pad (pad_rep [(.int i1), (.int i3)] (.int (0 : Int32)) 1), st⟩
  · obtain ⟨T', h', locs', b, k, X', e', N', K', g', s', V', st⟩ := sgD3 i0 i1 i2 i3 i4 i5 i6 i7 o8 i9 i10 X0 hx hZ hw hby hml hown e0 Z0 N0 hq
    exact ⟨T', h', locs', b, k, (3 : Int32), _, X', e', N', K', Or.inr rfl, V', st⟩
theorem pd_0_1 : parseMethodDescriptor "(I[I)[I" = some ⟨[.int, (.array .int)], some (.array .int)⟩ := by decide +kernel
set_option maxRecDepth 65536 in
set_option maxHeartbeats 40000000 in
theorem sgE_tfff {p : Program} {l : Launch} {e : Env} {s : State} {m : MethodId} {args : Array Value} {below : List Frame} {meth : Method} {c : Code} {T0 : State} {locs : List Loc} {Z : State} {a0 : Array Value} {h0 : Heap} {n0 : Nat} (i0 : Int32) (i1 : Int32) (i2 : Int32) (i3 : Int32) (i4 : Int32) (i5 : Int32) (i6 : Int32) (i7 : Int32) (o8 : Addr) (i9 : Int32) (i11 : Int32) (o12 : Addr) (k_o12 : ClassId) (z_o12 : Int32) (x0_o12 : Int32) (x1_o12 : Int32) (x2_o12 : Int32)
    (X0 : Stand p l e room_1 s m args below meth c T0 locs 2 8) (hx : p.tables.exec = Jvm.exec) (hZ : Z.Warmed39 s.vm) (hw : ∀ d ∈ tables_1, d.before a0 Z = true) (hby : c.code = code) (hml : c.maxLocals = 15) (hown : s.vm.findClass "com/example/restless_reasoner/restlessreasoner/engine/tableau/PremisesIsInequalityPinLaw" = some m.cls) (e0 : T0.heap = h0) (Z0 : n0 ≤ h0.size) (N0 : Fr n0 locs) (V_o12 : Arv Z h0 o12 k_o12 .int z_o12 [(.int x0_o12), (.int x1_o12), (.int x2_o12)] (.int (0 : Int32))) (hz_o12 : z_o12 = (2 : Int32) ∨ z_o12 = (3 : Int32)) (hc208 : ¬ (i7 = (-3 : Int32))) (hc228 : ¬ ((1 : Int32) = (0 : Int32))) (hc233 : ¬ ((1 : Int32) = (0 : Int32))) (hc216 : (own_isne (z_o12 + 1) i7) = (0 : Int32)) :
    ∃ (T' : State) (h' : Heap) (locs' : List Loc) (Ls : Array Slot), Stand p l e room_1 s m args below meth c T' locs' 3 12 ∧ T'.heap = h' ∧ Fr n0 locs' ∧ Keep h0 h' [] ∧
      ∀ target, Steps p.tables e below (T'.setTop (mkF m 241 Ls [(.int (1 : Int32))])) target → Steps p.tables e below (T0.setTop (mkF m 190 #[.val (.int i0), .val (.int i1), .val (.int i2), .val (.int i3), .val (.int i4), .val (.int i5), .val (.int i6), .val (.int i7), .val (.ref o8), .val (.int i9), .val (.int (1 : Int32)), .val (.int i11), .val (.ref o12), .unset, .unset] [])) target := by
  have VA6_o12 := V_o12
  obtain ⟨_, _, ⟨T6, L6, k6, n6⟩, -, X6, ⟨Lc6, hQ6, l6, y6, z6⟩, st6⟩ := Jvm.LawKit.callS X0 hx (y := (⟨"com/example/restless_reasoner/restlessreasoner/engine/tableau/Premises", "identity", "(I[I)[I"⟩ : MethodName)) hown (mvT hZ (hw _ (List.mem_of_getElem? (i := 6) rfl))) (mvT hZ (hw _ (List.mem_of_getElem? (i := 7) rfl))) (mvT hZ (hw _ (List.mem_of_getElem? (i := 4) rfl))) (mvT hZ (hw _ (List.mem_of_getElem? (i := 8) rfl))) (by decide) (backOf (W := 0) (rm2 l Z a0 hw [] i7 o12 k_o12 z_o12 x0_o12 x1_o12 x2_o12 h0 n0 Z0 hz_o12 VA6_o12) hZ (hw _ (List.mem_of_getElem? (i := 8) rfl)) (hw _ (List.mem_of_getElem? (i := 4) rfl)) (by decide) (by decide)) (g := (mkF m 194 #[.val (.int i0), .val (.int i1), .val (.int i2), .val (.int i3), .val (.int i4), .val (.int i5), .val (.int i6), .val (.int i7), .val (.ref o8), .val (.int i9), .val (.int (1 : Int32)), .val (.int i11), .val (.ref o12), .unset, .unset] [(.ref o12), (.int i7)])) rfl (by rw [hml]; rfl) (argsL := [(.int i7), (.ref o12)]) (rest := []) (lenOf pd_0_1 rfl) rfl (by show 2 * 0 + _ ≤ _; exact Nat.le_of_eq rfl) (hb hby at_194) (fun _ _ => ⟨rfl, e0, (Nat.le_of_ble_eq_true rfl), (Nat.le_of_ble_eq_true rfl)⟩)
  dsimp only [Pt.U, Pt.locs, Pt.cells, Pt.slots] at X6 l6 y6 z6 st6 hQ6
  subst l6 y6 z6
  obtain ⟨b6q, k6q, vs6q, rfl, N6q, Kq6, g6q, sz6q, V6q, w6q⟩ := hQ6
  have K6 : Keep h0 T6.heap [] := (Keep.refl h0 []).trans Kq6 (fun _ q => nomatch q)
  have N6 := Fr.app N0 N6q
  obtain ⟨_, _, ⟨T7, L7, k7, n7⟩, -, X7, ⟨Lc7, hQ7, l7, y7, z7⟩, st7⟩ := Jvm.LawKit.callS X6 hx (y := (⟨"com/example/restless_reasoner/restlessreasoner/engine/tableau/Premises", "isInequality", "([I)Z"⟩ : MethodName)) hown (mvT hZ (hw _ (List.mem_of_getElem? (i := 2) rfl))) (mvT hZ (hw _ (List.mem_of_getElem? (i := 3) rfl))) (mvT hZ (hw _ (List.mem_of_getElem? (i := 4) rfl))) (mvT hZ (hw _ (List.mem_of_getElem? (i := 5) rfl))) (by decide) (backOf (W := 0) (rm1 l Z a0 hw [] b6q k6q (z_o12 + 1) vs6q i7 T6.heap n0 (Nat.le_trans Z0 K6.1) V6q (fun _ => w6q)) hZ (hw _ (List.mem_of_getElem? (i := 5) rfl)) (hw _ (List.mem_of_getElem? (i := 4) rfl)) (by decide) (by decide)) (g := (mkF m 201 #[.val (.int i0), .val (.int i1), .val (.int i2), .val (.int i3), .val (.int i4), .val (.int i5), .val (.int i6), .val (.int i7), .val (.ref o8), .val (.int i9), .val (.int (1 : Int32)), .val (.int i11), .val (.ref o12), .val (.ref b6q), .unset] [(.ref b6q)])) rfl (by rw [hml]; rfl) (argsL := [(.ref b6q)]) (rest := []) (lenOf pd_0_0 rfl) rfl (by show 2 * 0 + _ ≤ _; exact Nat.le_of_eq rfl) (hb hby at_201) (fun _ _ => ⟨rfl, rfl, (Nat.le_of_ble_eq_true rfl), (Nat.le_of_ble_eq_true rfl)⟩)
  dsimp only [Pt.U, Pt.locs, Pt.cells, Pt.slots] at X7 l7 y7 z7 st7 hQ7
  subst l7 y7 z7
  obtain ⟨rfl, N7q, h7q⟩ := hQ7
  have Kq7 : Keep T6.heap T7.heap [] := by rw [h7q]; exact Keep.refl _ _
  have K7 : Keep h0 T7.heap [] := K6.trans Kq7 (fun _ q => nomatch q)
  have N7 := Fr.app N6 N7q
  refine ⟨T7, _, _, #[.val (.int i0), .val (.int i1), .val (.int i2), .val (.int i3), .val (.int i4), .val (.int i5), .val (.int i6), .val (.int i7), .val (.ref o8), .val (.int i9), .val (.int (1 : Int32)), .val (.int i11), .val (.ref o12), .val (.ref b6q), .val (.int (1 : Int32))], X7, rfl, N7, K7, fun target kt => ?_⟩
  show Steps p.tables e below (T0.setTop (mkF m 190 #[.val (.int i0), .val (.int i1), .val (.int i2), .val (.int i3), .val (.int i4), .val (.int i5), .val (.int i6), .val (.int i7), .val (.ref o8), .val (.int i9), .val (.int (1 : Int32)), .val (.int i11), .val (.ref o12), .unset, .unset] [])) _
  refine XS.iload X0.here hx rfl (hb hby at_190) rfl ?_
  show Steps p.tables e below (T0.setTop (mkF m 192 #[.val (.int i0), .val (.int i1), .val (.int i2), .val (.int i3), .val (.int i4), .val (.int i5), .val (.int i6), .val (.int i7), .val (.ref o8), .val (.int i9), .val (.int (1 : Int32)), .val (.int i11), .val (.ref o12), .unset, .unset] [(.int i7)])) _
  refine XS.aload X0.here hx rfl (hb hby at_192) rfl rfl ?_
  show Steps p.tables e below (T0.setTop (mkF m 194 #[.val (.int i0), .val (.int i1), .val (.int i2), .val (.int i3), .val (.int i4), .val (.int i5), .val (.int i6), .val (.int i7), .val (.ref o8), .val (.int i9), .val (.int (1 : Int32)), .val (.int i11), .val (.ref o12), .unset, .unset] [(.ref o12), (.int i7)])) _
  refine st6 _ ?_
  show Steps p.tables e below (T6.setTop (mkF m 197 #[.val (.int i0), .val (.int i1), .val (.int i2), .val (.int i3), .val (.int i4), .val (.int i5), .val (.int i6), .val (.int i7), .val (.ref o8), .val (.int i9), .val (.int (1 : Int32)), .val (.int i11), .val (.ref o12), .unset, .unset] [(.ref b6q)])) _
  refine XS.astore X6.here hx rfl (hb hby at_197) rfl rfl (l' := #[.val (.int i0), .val (.int i1), .val (.int i2), .val (.int i3), .val (.int i4), .val (.int i5), .val (.int i6), .val (.int i7), .val (.ref o8), .val (.int i9), .val (.int (1 : Int32)), .val (.int i11), .val (.ref o12), .val (.ref b6q), .unset]) rfl ?_
  show Steps p.tables e below (T6.setTop (mkF m 199 #[.val (.int i0), .val (.int i1), .val (.int i2), .val (.int i3), .val (.int i4), .val (.int i5), .val (.int i6), .val (.int i7), .val (.ref o8), .val (.int i9), .val (.int (1 : Int32)), .val (.int i11), .val (.ref o12), .val (.ref b6q), .unset] [])) _
  refine XS.aload X6.here hx rfl (hb hby at_199) rfl rfl ?_
  show Steps p.tables e below (T6.setTop (mkF m 201 #[.val (.int i0), .val (.int i1), .val (.int i2), .val (.int i3), .val (.int i4), .val (.int i5), .val (.int i6), .val (.int i7), .val (.ref o8), .val (.int i9), .val (.int (1 : Int32)), .val (.int i11), .val (.ref o12), .val (.ref b6q), .unset] [(.ref b6q)])) _
  refine st7 _ ?_
  show Steps p.tables e below (T7.setTop (mkF m 204 #[.val (.int i0), .val (.int i1), .val (.int i2), .val (.int i3), .val (.int i4), .val (.int i5), .val (.int i6), .val (.int i7), .val (.ref o8), .val (.int i9), .val (.int (1 : Int32)), .val (.int i11), .val (.ref o12), .val (.ref b6q), .unset] [(.int (own_isne (z_o12 + 1) i7))])) _
  refine XS.iload X7.here hx rfl (hb hby at_204) rfl ?_
  show Steps p.tables e below (T7.setTop (mkF m 206 #[.val (.int i0), .val (.int i1), .val (.int i2), .val (.int i3), .val (.int i4), .val (.int i5), .val (.int i6), .val (.int i7), .val (.ref o8), .val (.int i9), .val (.int (1 : Int32)), .val (.int i11), .val (.ref o12), .val (.ref b6q), .unset] [(.int i7), (.int (own_isne (z_o12 + 1) i7))])) _
  refine XS.bipush X7.here hx rfl (hb hby at_206) ?_
  show Steps p.tables e below (T7.setTop (mkF m 208 #[.val (.int i0), .val (.int i1), .val (.int i2), .val (.int i3), .val (.int i4), .val (.int i5), .val (.int i6), .val (.int i7), .val (.ref o8), .val (.int i9), .val (.int (1 : Int32)), .val (.int i11), .val (.ref o12), .val (.ref b6q), .unset] [(.int (-3 : Int32)), (.int i7), (.int (own_isne (z_o12 + 1) i7))])) _
  refine XS.icmpYes X7.here hx rfl (pc0 := 208) (pc' := 215) rfl (hb hby at_208) rfl (feq hc208).2 (by decide) (by decide) ?_
  show Steps p.tables e below (T7.setTop (mkF m 215 #[.val (.int i0), .val (.int i1), .val (.int i2), .val (.int i3), .val (.int i4), .val (.int i5), .val (.int i6), .val (.int i7), .val (.ref o8), .val (.int i9), .val (.int (1 : Int32)), .val (.int i11), .val (.ref o12), .val (.ref b6q), .unset] [(.int (own_isne (z_o12 + 1) i7))])) _
  refine XS.iconst X7.here hx rfl (hb hby at_215) ?_
  show Steps p.tables e below (T7.setTop (mkF m 216 #[.val (.int i0), .val (.int i1), .val (.int i2), .val (.int i3), .val (.int i4), .val (.int i5), .val (.int i6), .val (.int i7), .val (.ref o8), .val (.int i9), .val (.int (1 : Int32)), .val (.int i11), .val (.ref o12), .val (.ref b6q), .unset] [(.int (0 : Int32)), (.int (own_isne (z_o12 + 1) i7))])) _
  refine XS.icmpNo X7.here hx rfl (hb hby at_216) rfl (teq hc216).2 ?_
  show Steps p.tables e below (T7.setTop (mkF m 219 #[.val (.int i0), .val (.int i1), .val (.int i2), .val (.int i3), .val (.int i4), .val (.int i5), .val (.int i6), .val (.int i7), .val (.ref o8), .val (.int i9), .val (.int (1 : Int32)), .val (.int i11), .val (.ref o12), .val (.ref b6q), .unset] [])) _
  refine XS.iconst X7.here hx rfl (hb hby at_219) ?_
  show Steps p.tables e below (T7.setTop (mkF m 220 #[.val (.int i0), .val (.int i1), .val (.int i2), .val (.int i3), .val (.int i4), .val (.int i5), .val (.int i6), .val (.int i7), .val (.ref o8), .val (.int i9), .val (.int (1 : Int32)), .val (.int i11), .val (.ref o12), .val (.ref b6q), .unset] [(.int (1 : Int32))])) _
  refine XS.goto X7.here hx rfl (pc0 := 220) (pc' := 224) rfl (hb hby at_220) (by decide) (by decide) ?_
  show Steps p.tables e below (T7.setTop (mkF m 224 #[.val (.int i0), .val (.int i1), .val (.int i2), .val (.int i3), .val (.int i4), .val (.int i5), .val (.int i6), .val (.int i7), .val (.ref o8), .val (.int i9), .val (.int (1 : Int32)), .val (.int i11), .val (.ref o12), .val (.ref b6q), .unset] [(.int (1 : Int32))])) _
  refine XS.istore X7.here hx rfl (hb hby at_224) rfl (l' := #[.val (.int i0), .val (.int i1), .val (.int i2), .val (.int i3), .val (.int i4), .val (.int i5), .val (.int i6), .val (.int i7), .val (.ref o8), .val (.int i9), .val (.int (1 : Int32)), .val (.int i11), .val (.ref o12), .val (.ref b6q), .val (.int (1 : Int32))]) rfl ?_
  show Steps p.tables e below (T7.setTop (mkF m 226 #[.val (.int i0), .val (.int i1), .val (.int i2), .val (.int i3), .val (.int i4), .val (.int i5), .val (.int i6), .val (.int i7), .val (.ref o8), .val (.int i9), .val (.int (1 : Int32)), .val (.int i11), .val (.ref o12), .val (.ref b6q), .val (.int (1 : Int32))] [])) _
  refine XS.iload X7.here hx rfl (hb hby at_226) rfl ?_
  show Steps p.tables e below (T7.setTop (mkF m 228 #[.val (.int i0), .val (.int i1), .val (.int i2), .val (.int i3), .val (.int i4), .val (.int i5), .val (.int i6), .val (.int i7), .val (.ref o8), .val (.int i9), .val (.int (1 : Int32)), .val (.int i11), .val (.ref o12), .val (.ref b6q), .val (.int (1 : Int32))] [(.int (1 : Int32))])) _
  refine XS.ifNo X7.here hx rfl (hb hby at_228) rfl ((if0 _ _).trans (feq hc228).1) ?_
  show Steps p.tables e below (T7.setTop (mkF m 231 #[.val (.int i0), .val (.int i1), .val (.int i2), .val (.int i3), .val (.int i4), .val (.int i5), .val (.int i6), .val (.int i7), .val (.ref o8), .val (.int i9), .val (.int (1 : Int32)), .val (.int i11), .val (.ref o12), .val (.ref b6q), .val (.int (1 : Int32))] [])) _
  refine XS.iload X7.here hx rfl (hb hby at_231) rfl ?_
  show Steps p.tables e below (T7.setTop (mkF m 233 #[.val (.int i0), .val (.int i1), .val (.int i2), .val (.int i3), .val (.int i4), .val (.int i5), .val (.int i6), .val (.int i7), .val (.ref o8), .val (.int i9), .val (.int (1 : Int32)), .val (.int i11), .val (.ref o12), .val (.ref b6q), .val (.int (1 : Int32))] [(.int (1 : Int32))])) _
  refine XS.ifNo X7.here hx rfl (hb hby at_233) rfl ((if0 _ _).trans (feq hc233).1) ?_
  show Steps p.tables e below (T7.setTop (mkF m 236 #[.val (.int i0), .val (.int i1), .val (.int i2), .val (.int i3), .val (.int i4), .val (.int i5), .val (.int i6), .val (.int i7), .val (.ref o8), .val (.int i9), .val (.int (1 : Int32)), .val (.int i11), .val (.ref o12), .val (.ref b6q), .val (.int (1 : Int32))] [])) _
  refine XS.iconst X7.here hx rfl (hb hby at_236) ?_
  show Steps p.tables e below (T7.setTop (mkF m 237 #[.val (.int i0), .val (.int i1), .val (.int i2), .val (.int i3), .val (.int i4), .val (.int i5), .val (.int i6), .val (.int i7), .val (.ref o8), .val (.int i9), .val (.int (1 : Int32)), .val (.int i11), .val (.ref o12), .val (.ref b6q), .val (.int (1 : Int32))] [(.int (1 : Int32))])) _
  refine XS.goto X7.here hx rfl (pc0 := 237) (pc' := 241) rfl (hb hby at_237) (by decide) (by decide) ?_
  exact kt
set_option maxRecDepth 65536 in
set_option maxHeartbeats 40000000 in
theorem sgE_ffff {p : Program} {l : Launch} {e : Env} {s : State} {m : MethodId} {args : Array Value} {below : List Frame} {meth : Method} {c : Code} {T0 : State} {locs : List Loc} {Z : State} {a0 : Array Value} {h0 : Heap} {n0 : Nat} (i0 : Int32) (i1 : Int32) (i2 : Int32) (i3 : Int32) (i4 : Int32) (i5 : Int32) (i6 : Int32) (i7 : Int32) (o8 : Addr) (i9 : Int32) (i11 : Int32) (o12 : Addr) (k_o12 : ClassId) (z_o12 : Int32) (x0_o12 : Int32) (x1_o12 : Int32) (x2_o12 : Int32)
    (X0 : Stand p l e room_1 s m args below meth c T0 locs 2 8) (hx : p.tables.exec = Jvm.exec) (hZ : Z.Warmed39 s.vm) (hw : ∀ d ∈ tables_1, d.before a0 Z = true) (hby : c.code = code) (hml : c.maxLocals = 15) (hown : s.vm.findClass "com/example/restless_reasoner/restlessreasoner/engine/tableau/PremisesIsInequalityPinLaw" = some m.cls) (e0 : T0.heap = h0) (Z0 : n0 ≤ h0.size) (N0 : Fr n0 locs) (V_o12 : Arv Z h0 o12 k_o12 .int z_o12 [(.int x0_o12), (.int x1_o12), (.int x2_o12)] (.int (0 : Int32))) (hz_o12 : z_o12 = (2 : Int32) ∨ z_o12 = (3 : Int32)) (hc208 : i7 = (-3 : Int32)) (hc228 : ¬ ((1 : Int32) = (0 : Int32))) (hc233 : ¬ ((1 : Int32) = (0 : Int32))) (hc216 : (own_isne (z_o12 + 1) i7) = (1 : Int32)) :
    ∃ (T' : State) (h' : Heap) (locs' : List Loc) (Ls : Array Slot), Stand p l e room_1 s m args below meth c T' locs' 3 12 ∧ T'.heap = h' ∧ Fr n0 locs' ∧ Keep h0 h' [] ∧
      ∀ target, Steps p.tables e below (T'.setTop (mkF m 241 Ls [(.int (1 : Int32))])) target → Steps p.tables e below (T0.setTop (mkF m 190 #[.val (.int i0), .val (.int i1), .val (.int i2), .val (.int i3), .val (.int i4), .val (.int i5), .val (.int i6), .val (.int i7), .val (.ref o8), .val (.int i9), .val (.int (1 : Int32)), .val (.int i11), .val (.ref o12), .unset, .unset] [])) target := by
  have VA6_o12 := V_o12
  obtain ⟨_, _, ⟨T6, L6, k6, n6⟩, -, X6, ⟨Lc6, hQ6, l6, y6, z6⟩, st6⟩ := Jvm.LawKit.callS X0 hx (y := (⟨"com/example/restless_reasoner/restlessreasoner/engine/tableau/Premises", "identity", "(I[I)[I"⟩ : MethodName)) hown (mvT hZ (hw _ (List.mem_of_getElem? (i := 6) rfl))) (mvT hZ (hw _ (List.mem_of_getElem? (i := 7) rfl))) (mvT hZ (hw _ (List.mem_of_getElem? (i := 4) rfl))) (mvT hZ (hw _ (List.mem_of_getElem? (i := 8) rfl))) (by decide) (backOf (W := 0) (rm2 l Z a0 hw [] i7 o12 k_o12 z_o12 x0_o12 x1_o12 x2_o12 h0 n0 Z0 hz_o12 VA6_o12) hZ (hw _ (List.mem_of_getElem? (i := 8) rfl)) (hw _ (List.mem_of_getElem? (i := 4) rfl)) (by decide) (by decide)) (g := (mkF m 194 #[.val (.int i0), .val (.int i1), .val (.int i2), .val (.int i3), .val (.int i4), .val (.int i5), .val (.int i6), .val (.int i7), .val (.ref o8), .val (.int i9), .val (.int (1 : Int32)), .val (.int i11), .val (.ref o12), .unset, .unset] [(.ref o12), (.int i7)])) rfl (by rw [hml]; rfl) (argsL := [(.int i7), (.ref o12)]) (rest := []) (lenOf pd_0_1 rfl) rfl (by show 2 * 0 + _ ≤ _; exact Nat.le_of_eq rfl) (hb hby at_194) (fun _ _ => ⟨rfl, e0, (Nat.le_of_ble_eq_true rfl), (Nat.le_of_ble_eq_true rfl)⟩)
  dsimp only [Pt.U, Pt.locs, Pt.cells, Pt.slots] at X6 l6 y6 z6 st6 hQ6
  subst l6 y6 z6
  obtain ⟨b6q, k6q, vs6q, rfl, N6q, Kq6, g6q, sz6q, V6q, w6q⟩ := hQ6
  have K6 : Keep h0 T6.heap [] := (Keep.refl h0 []).trans Kq6 (fun _ q => nomatch q)
  have N6 := Fr.app N0 N6q
  obtain ⟨_, _, ⟨T7, L7, k7, n7⟩, -, X7, ⟨Lc7, hQ7, l7, y7, z7⟩, st7⟩ := Jvm.LawKit.callS X6 hx (y := (⟨"com/example/restless_reasoner/restlessreasoner/engine/tableau/Premises", "isInequality", "([I)Z"⟩ : MethodName)) hown (mvT hZ (hw _ (List.mem_of_getElem? (i := 2) rfl))) (mvT hZ (hw _ (List.mem_of_getElem? (i := 3) rfl))) (mvT hZ (hw _ (List.mem_of_getElem? (i := 4) rfl))) (mvT hZ (hw _ (List.mem_of_getElem? (i := 5) rfl))) (by decide) (backOf (W := 0) (rm1 l Z a0 hw [] b6q k6q (z_o12 + 1) vs6q i7 T6.heap n0 (Nat.le_trans Z0 K6.1) V6q (fun _ => w6q)) hZ (hw _ (List.mem_of_getElem? (i := 5) rfl)) (hw _ (List.mem_of_getElem? (i := 4) rfl)) (by decide) (by decide)) (g := (mkF m 201 #[.val (.int i0), .val (.int i1), .val (.int i2), .val (.int i3), .val (.int i4), .val (.int i5), .val (.int i6), .val (.int i7), .val (.ref o8), .val (.int i9), .val (.int (1 : Int32)), .val (.int i11), .val (.ref o12), .val (.ref b6q), .unset] [(.ref b6q)])) rfl (by rw [hml]; rfl) (argsL := [(.ref b6q)]) (rest := []) (lenOf pd_0_0 rfl) rfl (by show 2 * 0 + _ ≤ _; exact Nat.le_of_eq rfl) (hb hby at_201) (fun _ _ => ⟨rfl, rfl, (Nat.le_of_ble_eq_true rfl), (Nat.le_of_ble_eq_true rfl)⟩)
  dsimp only [Pt.U, Pt.locs, Pt.cells, Pt.slots] at X7 l7 y7 z7 st7 hQ7
  subst l7 y7 z7
  obtain ⟨rfl, N7q, h7q⟩ := hQ7
  have Kq7 : Keep T6.heap T7.heap [] := by rw [h7q]; exact Keep.refl _ _
  have K7 : Keep h0 T7.heap [] := K6.trans Kq7 (fun _ q => nomatch q)
  have N7 := Fr.app N6 N7q
  refine ⟨T7, _, _, #[.val (.int i0), .val (.int i1), .val (.int i2), .val (.int i3), .val (.int i4), .val (.int i5), .val (.int i6), .val (.int i7), .val (.ref o8), .val (.int i9), .val (.int (1 : Int32)), .val (.int i11), .val (.ref o12), .val (.ref b6q), .val (.int (1 : Int32))], X7, rfl, N7, K7, fun target kt => ?_⟩
  show Steps p.tables e below (T0.setTop (mkF m 190 #[.val (.int i0), .val (.int i1), .val (.int i2), .val (.int i3), .val (.int i4), .val (.int i5), .val (.int i6), .val (.int i7), .val (.ref o8), .val (.int i9), .val (.int (1 : Int32)), .val (.int i11), .val (.ref o12), .unset, .unset] [])) _
  refine XS.iload X0.here hx rfl (hb hby at_190) rfl ?_
  show Steps p.tables e below (T0.setTop (mkF m 192 #[.val (.int i0), .val (.int i1), .val (.int i2), .val (.int i3), .val (.int i4), .val (.int i5), .val (.int i6), .val (.int i7), .val (.ref o8), .val (.int i9), .val (.int (1 : Int32)), .val (.int i11), .val (.ref o12), .unset, .unset] [(.int i7)])) _
  refine XS.aload X0.here hx rfl (hb hby at_192) rfl rfl ?_
  show Steps p.tables e below (T0.setTop (mkF m 194 #[.val (.int i0), .val (.int i1), .val (.int i2), .val (.int i3), .val (.int i4), .val (.int i5), .val (.int i6), .val (.int i7), .val (.ref o8), .val (.int i9), .val (.int (1 : Int32)), .val (.int i11), .val (.ref o12), .unset, .unset] [(.ref o12), (.int i7)])) _
  refine st6 _ ?_
  show Steps p.tables e below (T6.setTop (mkF m 197 #[.val (.int i0), .val (.int i1), .val (.int i2), .val (.int i3), .val (.int i4), .val (.int i5), .val (.int i6), .val (.int i7), .val (.ref o8), .val (.int i9), .val (.int (1 : Int32)), .val (.int i11), .val (.ref o12), .unset, .unset] [(.ref b6q)])) _
  refine XS.astore X6.here hx rfl (hb hby at_197) rfl rfl (l' := #[.val (.int i0), .val (.int i1), .val (.int i2), .val (.int i3), .val (.int i4), .val (.int i5), .val (.int i6), .val (.int i7), .val (.ref o8), .val (.int i9), .val (.int (1 : Int32)), .val (.int i11), .val (.ref o12), .val (.ref b6q), .unset]) rfl ?_
  show Steps p.tables e below (T6.setTop (mkF m 199 #[.val (.int i0), .val (.int i1), .val (.int i2), .val (.int i3), .val (.int i4), .val (.int i5), .val (.int i6), .val (.int i7), .val (.ref o8), .val (.int i9), .val (.int (1 : Int32)), .val (.int i11), .val (.ref o12), .val (.ref b6q), .unset] [])) _
  refine XS.aload X6.here hx rfl (hb hby at_199) rfl rfl ?_
  show Steps p.tables e below (T6.setTop (mkF m 201 #[.val (.int i0), .val (.int i1), .val (.int i2), .val (.int i3), .val (.int i4), .val (.int i5), .val (.int i6), .val (.int i7), .val (.ref o8), .val (.int i9), .val (.int (1 : Int32)), .val (.int i11), .val (.ref o12), .val (.ref b6q), .unset] [(.ref b6q)])) _
  refine st7 _ ?_
  show Steps p.tables e below (T7.setTop (mkF m 204 #[.val (.int i0), .val (.int i1), .val (.int i2), .val (.int i3), .val (.int i4), .val (.int i5), .val (.int i6), .val (.int i7), .val (.ref o8), .val (.int i9), .val (.int (1 : Int32)), .val (.int i11), .val (.ref o12), .val (.ref b6q), .unset] [(.int (own_isne (z_o12 + 1) i7))])) _
  refine XS.iload X7.here hx rfl (hb hby at_204) rfl ?_
  show Steps p.tables e below (T7.setTop (mkF m 206 #[.val (.int i0), .val (.int i1), .val (.int i2), .val (.int i3), .val (.int i4), .val (.int i5), .val (.int i6), .val (.int i7), .val (.ref o8), .val (.int i9), .val (.int (1 : Int32)), .val (.int i11), .val (.ref o12), .val (.ref b6q), .unset] [(.int i7), (.int (own_isne (z_o12 + 1) i7))])) _
  refine XS.bipush X7.here hx rfl (hb hby at_206) ?_
  show Steps p.tables e below (T7.setTop (mkF m 208 #[.val (.int i0), .val (.int i1), .val (.int i2), .val (.int i3), .val (.int i4), .val (.int i5), .val (.int i6), .val (.int i7), .val (.ref o8), .val (.int i9), .val (.int (1 : Int32)), .val (.int i11), .val (.ref o12), .val (.ref b6q), .unset] [(.int (-3 : Int32)), (.int i7), (.int (own_isne (z_o12 + 1) i7))])) _
  refine XS.icmpNo X7.here hx rfl (hb hby at_208) rfl (teq hc208).2 ?_
  show Steps p.tables e below (T7.setTop (mkF m 211 #[.val (.int i0), .val (.int i1), .val (.int i2), .val (.int i3), .val (.int i4), .val (.int i5), .val (.int i6), .val (.int i7), .val (.ref o8), .val (.int i9), .val (.int (1 : Int32)), .val (.int i11), .val (.ref o12), .val (.ref b6q), .unset] [(.int (own_isne (z_o12 + 1) i7))])) _
  refine XS.iconst X7.here hx rfl (hb hby at_211) ?_
  show Steps p.tables e below (T7.setTop (mkF m 212 #[.val (.int i0), .val (.int i1), .val (.int i2), .val (.int i3), .val (.int i4), .val (.int i5), .val (.int i6), .val (.int i7), .val (.ref o8), .val (.int i9), .val (.int (1 : Int32)), .val (.int i11), .val (.ref o12), .val (.ref b6q), .unset] [(.int (1 : Int32)), (.int (own_isne (z_o12 + 1) i7))])) _
  refine XS.goto X7.here hx rfl (pc0 := 212) (pc' := 216) rfl (hb hby at_212) (by decide) (by decide) ?_
  show Steps p.tables e below (T7.setTop (mkF m 216 #[.val (.int i0), .val (.int i1), .val (.int i2), .val (.int i3), .val (.int i4), .val (.int i5), .val (.int i6), .val (.int i7), .val (.ref o8), .val (.int i9), .val (.int (1 : Int32)), .val (.int i11), .val (.ref o12), .val (.ref b6q), .unset] [(.int (1 : Int32)), (.int (own_isne (z_o12 + 1) i7))])) _
  refine XS.icmpNo X7.here hx rfl (hb hby at_216) rfl (teq hc216).2 ?_
  show Steps p.tables e below (T7.setTop (mkF m 219 #[.val (.int i0), .val (.int i1), .val (.int i2), .val (.int i3), .val (.int i4), .val (.int i5), .val (.int i6), .val (.int i7), .val (.ref o8), .val (.int i9), .val (.int (1 : Int32)), .val (.int i11), .val (.ref o12), .val (.ref b6q), .unset] [])) _
  refine XS.iconst X7.here hx rfl (hb hby at_219) ?_
  show Steps p.tables e below (T7.setTop (mkF m 220 #[.val (.int i0), .val (.int i1), .val (.int i2), .val (.int i3), .val (.int i4), .val (.int i5), .val (.int i6), .val (.int i7), .val (.ref o8), .val (.int i9), .val (.int (1 : Int32)), .val (.int i11), .val (.ref o12), .val (.ref b6q), .unset] [(.int (1 : Int32))])) _
  refine XS.goto X7.here hx rfl (pc0 := 220) (pc' := 224) rfl (hb hby at_220) (by decide) (by decide) ?_
  show Steps p.tables e below (T7.setTop (mkF m 224 #[.val (.int i0), .val (.int i1), .val (.int i2), .val (.int i3), .val (.int i4), .val (.int i5), .val (.int i6), .val (.int i7), .val (.ref o8), .val (.int i9), .val (.int (1 : Int32)), .val (.int i11), .val (.ref o12), .val (.ref b6q), .unset] [(.int (1 : Int32))])) _
  refine XS.istore X7.here hx rfl (hb hby at_224) rfl (l' := #[.val (.int i0), .val (.int i1), .val (.int i2), .val (.int i3), .val (.int i4), .val (.int i5), .val (.int i6), .val (.int i7), .val (.ref o8), .val (.int i9), .val (.int (1 : Int32)), .val (.int i11), .val (.ref o12), .val (.ref b6q), .val (.int (1 : Int32))]) rfl ?_
  show Steps p.tables e below (T7.setTop (mkF m 226 #[.val (.int i0), .val (.int i1), .val (.int i2), .val (.int i3), .val (.int i4), .val (.int i5), .val (.int i6), .val (.int i7), .val (.ref o8), .val (.int i9), .val (.int (1 : Int32)), .val (.int i11), .val (.ref o12), .val (.ref b6q), .val (.int (1 : Int32))] [])) _
  refine XS.iload X7.here hx rfl (hb hby at_226) rfl ?_
  show Steps p.tables e below (T7.setTop (mkF m 228 #[.val (.int i0), .val (.int i1), .val (.int i2), .val (.int i3), .val (.int i4), .val (.int i5), .val (.int i6), .val (.int i7), .val (.ref o8), .val (.int i9), .val (.int (1 : Int32)), .val (.int i11), .val (.ref o12), .val (.ref b6q), .val (.int (1 : Int32))] [(.int (1 : Int32))])) _
  refine XS.ifNo X7.here hx rfl (hb hby at_228) rfl ((if0 _ _).trans (feq hc228).1) ?_
  show Steps p.tables e below (T7.setTop (mkF m 231 #[.val (.int i0), .val (.int i1), .val (.int i2), .val (.int i3), .val (.int i4), .val (.int i5), .val (.int i6), .val (.int i7), .val (.ref o8), .val (.int i9), .val (.int (1 : Int32)), .val (.int i11), .val (.ref o12), .val (.ref b6q), .val (.int (1 : Int32))] [])) _
  refine XS.iload X7.here hx rfl (hb hby at_231) rfl ?_
  show Steps p.tables e below (T7.setTop (mkF m 233 #[.val (.int i0), .val (.int i1), .val (.int i2), .val (.int i3), .val (.int i4), .val (.int i5), .val (.int i6), .val (.int i7), .val (.ref o8), .val (.int i9), .val (.int (1 : Int32)), .val (.int i11), .val (.ref o12), .val (.ref b6q), .val (.int (1 : Int32))] [(.int (1 : Int32))])) _
  refine XS.ifNo X7.here hx rfl (hb hby at_233) rfl ((if0 _ _).trans (feq hc233).1) ?_
  show Steps p.tables e below (T7.setTop (mkF m 236 #[.val (.int i0), .val (.int i1), .val (.int i2), .val (.int i3), .val (.int i4), .val (.int i5), .val (.int i6), .val (.int i7), .val (.ref o8), .val (.int i9), .val (.int (1 : Int32)), .val (.int i11), .val (.ref o12), .val (.ref b6q), .val (.int (1 : Int32))] [])) _
  refine XS.iconst X7.here hx rfl (hb hby at_236) ?_
  show Steps p.tables e below (T7.setTop (mkF m 237 #[.val (.int i0), .val (.int i1), .val (.int i2), .val (.int i3), .val (.int i4), .val (.int i5), .val (.int i6), .val (.int i7), .val (.ref o8), .val (.int i9), .val (.int (1 : Int32)), .val (.int i11), .val (.ref o12), .val (.ref b6q), .val (.int (1 : Int32))] [(.int (1 : Int32))])) _
  refine XS.goto X7.here hx rfl (pc0 := 237) (pc' := 241) rfl (hb hby at_237) (by decide) (by decide) ?_
  exact kt
theorem pn_0 : plainName "com/example/restless_reasoner/restlessreasoner/engine/tableau/PremisesIsInequalityPinLaw" = true := by first | (simp [plainName, overriddenIn]; done) | decide +kernel
theorem ef_0 (m : MethodId) (x0 : Int32) (x1 : Int32) (x2 : Int32) (x3 : Int32) (x4 : Int32) : entryFrame m #[(.int x0), (.int x1), (.int x2), (.int x3), (.int x4)] maxLocals = mkF m 0 #[.val (.int x0), .val (.int x1), .val (.int x2), .val (.int x3), .val (.int x4), .unset, .unset, .unset, .unset, .unset, .unset, .unset, .unset, .unset, .unset] [] := by first | (simp [entryFrame, mkF, argsToLocals, Value.category, maxLocals]; done) | rfl
def Q0 (Z : State) (p1 : Int32) (p2 : Int32) (p3 : Int32) (p4 : Int32) (p5 : Int32) (h0 : Heap) (n0 : Nat) (v : Option Value) (h : Heap) (L : List Loc) : Prop := v = some (.int (1 : Int32)) ∧ Fr n0 L
set_option maxRecDepth 65536 in
set_option maxHeartbeats 40000000 in
theorem rm0 (l : Launch) (Z : State) (a0 : Array Value) (hw : ∀ d ∈ tables_1, d.before a0 Z = true) (ws : List Jvm.Cond) (p1 : Int32) (p2 : Int32) (p3 : Int32) (p4 : Int32) (p5 : Int32) (h0 : Heap) (n0 : Nat) (Z0 : n0 ≤ h0.size) :
    MetFree l x (head1 (Jvm.Cond.code x code maxLocals ret :: ws) room_1) (fun a U => a = #[(.int p1), (.int p2), (.int p3), (.int p4), (.int p5)] ∧ Z.Warmed39 U.vm ∧ U.heap = h0) (fun _ _ _ _ _ => True) (fun _ U o U' => ∃ v L, o = .returned v ∧ Q0 Z p1 p2 p3 p4 p5 h0 n0 v U'.heap L ∧ FrameEnd U o U' L room_1.cells room_1.slots) := by
  refine MetFree.of_bodySF (plainFor_of_name pn_0) hisR ?_
  intro p e s m args below meth c s₁ Bd hml0 hP hK
  obtain ⟨rfl, hZ, hh⟩ := hP
  have hx := Bd.exec
  have hby := Bd.bytes
  have hml : c.maxLocals = 15 := hml0
  have hown : s.vm.findClass "com/example/restless_reasoner/restlessreasoner/engine/tableau/PremisesIsInequalityPinLaw" = some m.cls := findClass_of_methodNamed Bd.named
  have hnm := (name_of_methodNamed Bd.named Bd.method).1
  have X0 : Stand p l e room_1 s m #[(.int p1), (.int p2), (.int p3), (.int p4), (.int p5)] below meth c s₁ [] 0 0 := Stand.of_body Bd
  have e0 : s₁.heap = h0 := by rw [← hh, Bd.state]; rfl
  have N0 := Fr.nil n0
  have pre0 : ∀ t, Steps p.tables e below (s₁.setTop (mkF m 0 #[.val (.int p1), .val (.int p2), .val (.int p3), .val (.int p4), .val (.int p5), .unset, .unset, .unset, .unset, .unset, .unset, .unset, .unset, .unset, .unset] [])) t → Steps p.tables e below (s₁.setTop (entryFrame m #[(.int p1), (.int p2), (.int p3), (.int p4), (.int p5)] maxLocals)) t := fun t k => castTop (ef_0 m p1 p2 p3 p4 p5) k
  obtain ⟨TA, hA, LA, XA, eA, NA, KA, stA⟩ := sgA p1 p2 p3 p4 p5 X0 hx hZ hw hby hml hown e0 Z0 N0
  obtain ⟨TB, hB, LB, b, k, vs, XB, eB, NB, KB, gB, sB, VB, hvB, stB⟩ := sgB p1 p2 p3 p4 p5 ((p1 &&& (2147483647 : Int32)) % (6 : Int32)) (((p1.toUInt32 >>> ((8 : Int32) &&& 31).toUInt32).toInt32) &&& (3 : Int32)) (own_sec (((p1.toUInt32 >>> ((8 : Int32) &&& 31).toUInt32).toInt32) &&& (3 : Int32)) p3) (own_six p1) XA hx hZ hw hby hml hown eA (Nat.le_trans Z0 KA.1) NA
  have ZB := Nat.le_trans (Nat.le_trans Z0 KA.1) KB.1
  obtain ⟨TC, hC, LC, y, XC, eC, NC, KC, stC⟩ := sgC p1 p2 p3 p4 p5 ((p1 &&& (2147483647 : Int32)) % (6 : Int32)) (((p1.toUInt32 >>> ((8 : Int32) &&& 31).toUInt32).toInt32) &&& (3 : Int32)) (own_sec (((p1.toUInt32 >>> ((8 : Int32) &&& 31).toUInt32).toInt32) &&& (3 : Int32)) p3) b k vs XB hx hZ hw hby hml hown eB ZB NB VB hvB
  obtain ⟨TD, hD, LD, b2, k2, z2, x2, XD, eD, ND, KD, hz, VD, stD⟩ := sgD p1 p2 p3 p4 p5 ((p1 &&& (2147483647 : Int32)) % (6 : Int32)) (((p1.toUInt32 >>> ((8 : Int32) &&& 31).toUInt32).toInt32) &&& (3 : Int32)) (own_sec (((p1.toUInt32 >>> ((8 : Int32) &&& 31).toUInt32).toInt32) &&& (3 : Int32)) p3) b y (1 : Int32) XC hx hZ hw hby hml hown eC (Nat.le_trans ZB KC.1) NC
  have ZD := Nat.le_trans (Nat.le_trans ZB KC.1) KD.1
  obtain ⟨TE, hE, LE, Ls, XE, eE, NE, KE, stE⟩ : ∃ (T' : State) (h' : Heap) (locs' : List Loc) (Ls : Array Slot), Stand p l e room_1 s m _ below meth c T' locs' 3 12 ∧ T'.heap = h' ∧ Fr n0 locs' ∧ Keep hD h' [] ∧ ∀ target, Steps p.tables e below (T'.setTop (mkF m 241 Ls [(.int (1 : Int32))])) target → Steps p.tables e below (TD.setTop (mkF m 190 #[.val (.int p1), .val (.int p2), .val (.int p3), .val (.int p4), .val (.int p5), .val (.int ((p1 &&& (2147483647 : Int32)) % (6 : Int32))), .val (.int (((p1.toUInt32 >>> ((8 : Int32) &&& 31).toUInt32).toInt32) &&& (3 : Int32))), .val (.int (own_sec (((p1.toUInt32 >>> ((8 : Int32) &&& 31).toUInt32).toInt32) &&& (3 : Int32)) p3)), .val (.ref b), .val (.int y), .val (.int (1 : Int32)), .val (.int ((2 : Int32) + (((p1.toUInt32 >>> ((10 : Int32) &&& 31).toUInt32).toInt32) &&& (1 : Int32)))), .val (.ref b2), .unset, .unset] [])) target := by
    by_cases h2 : (own_sec (((p1.toUInt32 >>> ((8 : Int32) &&& 31).toUInt32).toInt32) &&& (3 : Int32)) p3) = (-3 : Int32)
    · exact sgE_ffff p1 p2 p3 p4 p5 ((p1 &&& (2147483647 : Int32)) % (6 : Int32)) (((p1.toUInt32 >>> ((8 : Int32) &&& 31).toUInt32).toInt32) &&& (3 : Int32)) (own_sec (((p1.toUInt32 >>> ((8 : Int32) &&& 31).toUInt32).toInt32) &&& (3 : Int32)) p3) b y ((2 : Int32) + (((p1.toUInt32 >>> ((10 : Int32) &&& 31).toUInt32).toInt32) &&& (1 : Int32))) b2 k2 z2 p2 p4 x2 XD hx hZ hw hby hml hown eD ZD ND VD hz h2 (by decide) (by decide) (own_c2 (own_z3 hz) h2)
    · exact sgE_tfff p1 p2 p3 p4 p5 ((p1 &&& (2147483647 : Int32)) % (6 : Int32)) (((p1.toUInt32 >>> ((8 : Int32) &&& 31).toUInt32).toInt32) &&& (3 : Int32)) (own_sec (((p1.toUInt32 >>> ((8 : Int32) &&& 31).toUInt32).toInt32) &&& (3 : Int32)) p3) b y ((2 : Int32) + (((p1.toUInt32 >>> ((10 : Int32) &&& 31).toUInt32).toInt32) &&& (1 : Int32))) b2 k2 z2 p2 p4 x2 XD hx hZ hw hby hml hown eD ZD ND VD hz h2 (by decide) (by decide) (own_c1 (own_z3 hz) h2)
  obtain ⟨fs, hr, hrun, hended, hW, hsame⟩ := XE.leave (v := some (.int (1 : Int32))) (fun h => by rw [Bd.returns] at h; cases h)
  refine ⟨_, _, pre0 _ (stA _ (stB _ (stC _ (stD _ (stE _ ?_))))), hrun, hended, _, _, rfl, ⟨rfl, NE⟩, ⟨_, rfl⟩, hW, hsame.mono (by decide) (by decide)⟩
  exact retN XE hx (t := .boolean) Bd.returns (by simp) (hb hby at_241) hr
set_option maxRecDepth 65536 in
set_option maxHeartbeats 40000000 in
theorem comes_1 {Post : Tables → Env → Array Value → State → Outcome → State → Prop} (hpost : ∀ tb e args s v u, (limb_1_1.after args s (.returned v) u = true ∧ limb_1_2.after args s (.returned v) u = true ∧ True) → FrameEnd s (.returned v) u (Jvm.fieldLocs frame_1_writes args s ++ Jvm.arrayLocs frame_1_arrays args s ++ Jvm.staticLocs frame_1_statics s) 16 128 → Post tb e args s (.returned v) u) :
    ArmFor flags0 classFile x code maxLocals ret World_1 tables_1 room_1 Calls_1 rest_1 Pre_1 Post := by
  intro l hfl _ _ p e ha hc hk s m args below hf hA hF happ hP
  obtain ⟨hcalls, hrest, hpre⟩ := hP
  obtain ⟨-, -, -, hnamed, -, -, -, hat⟩ := (Spec.applies_iff hf).mp happ
  obtain ⟨hg, hn⟩ := and_e (Cond.before_iff.mp (show (Jvm.Cond.and given_1 narrow_1).before args s = true from hpre))
  obtain ⟨g14, g15⟩ := and_e hg
  obtain ⟨g16, g17⟩ := and_e g15
  obtain ⟨g18, g19⟩ := and_e g17
  obtain ⟨g20, g21⟩ := and_e g19
  obtain ⟨g22, g23⟩ := and_e g21
  obtain ⟨w0, w1, w2, w3, w4, rfl⟩ : ∃ w0 w1 w2 w3 w4 : Value, args = #[w0, w1, w2, w3, w4] := by
    have hs : args.size = 5 := by simpa [Cond.value, given_1] using g14
    obtain ⟨L⟩ := args
    match L, hs with
    | [w0, w1, w2, w3, w4], _ => exact ⟨w0, w1, w2, w3, w4, rfl⟩
  have hw := fun d (hd : d ∈ tables_1) => atoms_spec (ws := Jvm.Cond.code x code maxLocals ret :: tables_1) hat d (List.mem_cons_of_mem _ hd)
  have hfit : Fit s := fun {y c} hc i hi => by
    obtain ⟨ha, rfl⟩ := Array.getElem?_eq_some_iff.mp hc
    have q := List.all_eq_true.mp ((Array.all_eq_true_iff_forall_mem.mp hF) _ (Array.getElem_mem ha)) i (List.mem_range.mpr hi)
    simpa [Array.getElem?_eq_getElem hi] using q
  obtain ⟨i0, ei0⟩ := is_v g16
  obtain rfl : w0 = (.int i0) := Option.some.inj ei0
  obtain ⟨i1, ei1⟩ := is_v g18
  obtain rfl : w1 = (.int i1) := Option.some.inj ei1
  obtain ⟨i2, ei2⟩ := is_v g20
  obtain rfl : w2 = (.int i2) := Option.some.inj ei2
  obtain ⟨i3, ei3⟩ := is_v g22
  obtain rfl : w3 = (.int i3) := Option.some.inj ei3
  obtain ⟨i4, ei4⟩ := is_v g23
  obtain rfl : w4 = (.int i4) := Option.some.inj ei4
  obtain ⟨n, o, h1, h2, h3, _, L, rfl, ⟨rfl, N⟩, hq⟩ := rm0 l s _ hw tables_1 i0 i1 i2 i3 i4 s.heap s.heap.size (Nat.le_refl _) p e ha hc hk s m _ below hf ((Spec.applies_iff_loose hf).mp happ).1 ⟨rfl, State.Warmed39.refl s, rfl⟩ trivial
  refine ⟨n, _, h1, h2, h3, hpost _ _ _ _ _ _ ⟨Cond.after_iff.mpr rfl, Cond.after_iff.mpr (eq_i res_at (Term.int_eval (1)) rfl), trivial⟩ ⟨hq.1, hq.2.1, (hq.2.2.sift fun y hy => Or.inr (N y hy)).mono (by decide) (by decide)⟩⟩
theorem main_1_1 : Claimed_1_1 := comes_1 fun _ _ _ _ _ _ h hF => ⟨h.1, hF⟩
theorem main_1_2 : Claimed_1_2 := comes_1 fun _ _ _ _ _ _ h hF => ⟨h.2.1, hF⟩
end Jvm.Pilot.@@N@@
namespace Jvm.Pilot.@@N@@
open Jvm Jvm.ClassFile Sem Op Lib Jvm.Free Jvm.Stand Jvm.Pilot.@@N@@.Jvm.D
/-! MADE BY PROGRAM (witnessworld.py) out of the Statement's table words and the real class files: 10 classes; the members and pool entries that the words name. The judged class is class 1, her method 1. -/
namespace start1
open Jvm.ClassFile
def u (s : String) : CpInfo := .utf8 (stringToUtf16 s)
/-- a pool by its gaps: so many unusable entries, then the entry; so many at the end -/
def gap : Nat → List CpInfo → List CpInfo
  | 0, r => r
  | n + 1, r => .unusable :: gap n r
def poolList (es : List (Nat × CpInfo)) (last : Nat) : List CpInfo := es.foldr (fun e r => gap e.1 (e.2 :: r)) (gap last [])
def pool (es : List (Nat × CpInfo)) (last : Nat) : Array CpInfo := ⟨poolList es last⟩
def fileOf (pool : Array CpInfo) (this : Nat) (attrs : Array Attribute := #[]) (ms : Array MethodInfo := #[]) (fl : Nat := 33) (sup : Nat := 0) (ifs : Array Nat := #[]) (fds : Array FieldInfo := #[]) : ClassFile where
  minorVersion := 0
  majorVersion := 65
  constantPool := pool
  accessFlags := fl
  thisClass := this
  superClass := sup
  interfaces := ifs
  fields := fds
  methods := ms
  attributes := attrs
def plain (name : String) (sup : Option ClassId) : Class where
  name := name
  kind := .ordinary
  loader := none
  accessFlags := 33
  super := sup
  interfaces := #[]
  cf := none
  fields := #[]
  methods := #[]
  instanceTypes := #[]
  staticTypes := #[]
  resolved := #[]
  callSites := []
  init := .initialized
  statics := none
  mirror := none

def pool0 : Array CpInfo := pool [(5, u "<init>"), (0, u "()V"), (1, .class_ 10), (1, u "java/lang/Object")] 113

def k0m0 : Method := { name := "<init>", desc := "()V", sig := { parameters := [], returnType := none }, accessFlags := 1, code := none }
/-- java/lang/Object -/
def k0 : Class := { plain "java/lang/Object" none with
  accessFlags := 33
  interfaces := #[]
  cf := some (fileOf pool0 8 #[] #[{ accessFlags := 1, nameIndex := 5, descriptorIndex := 6, attributes := #[] }] 33 0 #[] #[])
  fields := #[]
  methods := #[k0m0]
  instanceTypes := #[]
  staticTypes := #[]
  resolved := Array.replicate 124 none
  statics := none }

def pool1 : Array CpInfo := pool [(2, .class_ 4), (1, u "java/lang/Object"), (0, u "<init>"), (0, u "()V"), (0, .integer 2147483647), (0, .class_ 9), (0, u "com/example/restless_reasoner/restlessreasoner/engine/tableau/Premises"), (0, .methodref 8 11), (0, .nameAndType 12 13), (0, u "isInequality"), (0, u "([I)Z"), (0, .methodref 8 15), (0, .nameAndType 16 17), (0, u "identity"), (0, u "(I[I)[I"), (0, .class_ 19), (0, u "com/example/restless_reasoner/restlessreasoner/engine/tableau/PremisesIsInequalityPinLaw"), (2, u "law"), (0, u "(IIIII)Z")] 5

def k1m0 : Method := { name := "<init>", desc := "()V", sig := { parameters := [], returnType := none }, accessFlags := 1, code := none }
def k1c1 : Code := { maxStack := 4, maxLocals := 15, code := code, exceptionTable := #[], attributes := #[] }
def k1m1 : Method := { name := "law", desc := "(IIIII)Z", sig := { parameters := [.int, .int, .int, .int, .int], returnType := some .boolean }, accessFlags := 9, code := some k1c1 }
/-- com/example/restless_reasoner/restlessreasoner/engine/tableau/PremisesIsInequalityPinLaw -/
def k1 : Class := { plain "com/example/restless_reasoner/restlessreasoner/engine/tableau/PremisesIsInequalityPinLaw" (some 0) with
  accessFlags := 49
  interfaces := #[]
  cf := some (fileOf pool1 18 #[] #[{ accessFlags := 1, nameIndex := 5, descriptorIndex := 6, attributes := #[] }, { accessFlags := 9, nameIndex := 22, descriptorIndex := 23, attributes := #[] }] 49 2 #[] #[])
  fields := #[]
  methods := #[k1m0, k1m1]
  instanceTypes := #[]
  staticTypes := #[]
  resolved := Array.replicate 29 none
  statics := none }

def pool2 : Array CpInfo := pool [(2, .class_ 4), (1, u "java/lang/Object"), (0, u "<init>"), (0, u "()V"), (4, .class_ 13), (1, u "com/example/restless_reasoner/restlessreasoner/engine/tableau/Premises"), (0, u "facts"), (0, u "Ljava/util/List;"), (2, u "about"), (5, u "retracted"), (0, u "Ljava/util/BitSet;"), (2, u "links"), (2, u "identities"), (2, u "statementPremises"), (0, u "[I"), (4, u "statements"), (0, u "[Lcom/example/restless_reasoner/restlessreasoner/engine/tableau/DependencySet;"), (0, .methodref 43 44), (0, .class_ 45), (0, .nameAndType 46 47), (0, u "java/lang/System"), (0, u "arraycopy"), (0, u "(Ljava/lang/Object;ILjava/lang/Object;II)V"), (34, u "([I)Z"), (9, u "isInequality"), (103, u "SAME"), (0, u "I"), (2, u "DIFFERENT"), (7, u "identity"), (0, u "(I[I)[I")] 32

def k2m0 : Method := { name := "<init>", desc := "()V", sig := { parameters := [], returnType := none }, accessFlags := 0, code := none }
def k2c1 : Code := { maxStack := 2, maxLocals := 1, code := prog_45_method_5_code, exceptionTable := #[], attributes := #[] }
def k2m1 : Method := { name := "isInequality", desc := "([I)Z", sig := { parameters := [(.array .int)], returnType := some .boolean }, accessFlags := 8, code := some k2c1 }
def k2c2 : Code := { maxStack := 6, maxLocals := 3, code := prog_45_method_6_code, exceptionTable := #[], attributes := #[] }
def k2m2 : Method := { name := "identity", desc := "(I[I)[I", sig := { parameters := [.int, (.array .int)], returnType := some (.array .int) }, accessFlags := 8, code := some k2c2 }
/-- com/example/restless_reasoner/restlessreasoner/engine/tableau/Premises -/
def k2 : Class := { plain "com/example/restless_reasoner/restlessreasoner/engine/tableau/Premises" (some 0) with
  accessFlags := 48
  interfaces := #[]
  cf := some (fileOf pool2 11 #[] #[{ accessFlags := 0, nameIndex := 5, descriptorIndex := 6, attributes := #[] }, { accessFlags := 8, nameIndex := 92, descriptorIndex := 82, attributes := #[] }, { accessFlags := 8, nameIndex := 208, descriptorIndex := 209, attributes := #[] }] 48 2 #[] #[{ accessFlags := 24, nameIndex := 196, descriptorIndex := 197, attributes := #[] }, { accessFlags := 24, nameIndex := 200, descriptorIndex := 197, attributes := #[] }, { accessFlags := 18, nameIndex := 14, descriptorIndex := 15, attributes := #[] }, { accessFlags := 18, nameIndex := 18, descriptorIndex := 15, attributes := #[] }, { accessFlags := 18, nameIndex := 24, descriptorIndex := 25, attributes := #[] }, { accessFlags := 18, nameIndex := 28, descriptorIndex := 25, attributes := #[] }, { accessFlags := 18, nameIndex := 31, descriptorIndex := 25, attributes := #[] }, { accessFlags := 2, nameIndex := 34, descriptorIndex := 35, attributes := #[] }, { accessFlags := 2, nameIndex := 40, descriptorIndex := 41, attributes := #[] }])
  fields := #[{ name := "SAME", type := .int, accessFlags := 24, slot := 0, constantValue := 0 }, { name := "DIFFERENT", type := .int, accessFlags := 24, slot := 1, constantValue := 0 }, { name := "facts", type := (.object "java/util/List"), accessFlags := 18, slot := 0, constantValue := 0 }, { name := "about", type := (.object "java/util/List"), accessFlags := 18, slot := 1, constantValue := 0 }, { name := "retracted", type := (.object "java/util/BitSet"), accessFlags := 18, slot := 2, constantValue := 0 }, { name := "links", type := (.object "java/util/BitSet"), accessFlags := 18, slot := 3, constantValue := 0 }, { name := "identities", type := (.object "java/util/BitSet"), accessFlags := 18, slot := 4, constantValue := 0 }, { name := "statementPremises", type := (.array .int), accessFlags := 2, slot := 5, constantValue := 0 }, { name := "statements", type := (.array (.object "com/example/restless_reasoner/restlessreasoner/engine/tableau/DependencySet")), accessFlags := 2, slot := 6, constantValue := 0 }]
  methods := #[k2m0, k2m1, k2m2]
  instanceTypes := #[(.object "java/util/List"), (.object "java/util/List"), (.object "java/util/BitSet"), (.object "java/util/BitSet"), (.object "java/util/BitSet"), (.array .int), (.array (.object "com/example/restless_reasoner/restlessreasoner/engine/tableau/DependencySet"))]
  staticTypes := #[.int, .int]
  resolved := Array.replicate 242 none
  statics := none }

def pool3 : Array CpInfo := pool [(2, .class_ 4), (1, u "java/lang/Object"), (0, u "<init>"), (0, u "()V"), (1, .class_ 10), (1, u "java/lang/System"), (0, u "allowSecurityManager"), (0, u "I"), (16, u "cons"), (0, u "Ljava/io/Console;"), (77, .class_ 110), (1, u "java/lang/System$CallersHolder"), (43, u "initialErrStream"), (0, u "Ljava/io/PrintStream;"), (19, u "security"), (0, u "Ljava/lang/SecurityManager;"), (31, .class_ 209), (0, u "java/lang/System$1"), (7, u "props"), (0, u "Ljava/util/Properties;"), (2, u "lineSeparator"), (0, u "Ljava/lang/String;"), (96, .class_ 321), (1, u "java/lang/System$LoggerFinder"), (5, .class_ 328), (0, u "java/lang/System$Logger"), (67, u "err"), (2, u "out"), (91, u "notSupportedJnuEncoding"), (15, u "in"), (17, u "initialIn"), (0, u "Ljava/io/InputStream;"), (35, u "bootLayer"), (0, u "Ljava/lang/ModuleLayer;"), (99, .class_ 664), (0, u "java/lang/System$2"), (9, u "NEVER"), (2, u "MAYBE"), (49, u "arraycopy"), (0, u "(Ljava/lang/Object;ILjava/lang/Object;II)V"), (72, .class_ 802), (0, u "java/lang/System$Logger$Level")] 31

def k3m0 : Method := { name := "<init>", desc := "()V", sig := { parameters := [], returnType := none }, accessFlags := 2, code := none }
def k3m1 : Method := { name := "arraycopy", desc := "(Ljava/lang/Object;ILjava/lang/Object;II)V", sig := { parameters := [(.object "java/lang/Object"), .int, (.object "java/lang/Object"), .int, .int], returnType := none }, accessFlags := 265, code := none }
/-- java/lang/System -/
def k3 : Class := { plain "java/lang/System" (some 0) with
  accessFlags := 49
  interfaces := #[]
  cf := some (fileOf pool3 8 #[.nestMembers #[319, 327, 801, 108, 663, 208]] #[{ accessFlags := 2, nameIndex := 5, descriptorIndex := 6, attributes := #[] }, { accessFlags := 265, nameIndex := 727, descriptorIndex := 728, attributes := #[] }] 49 2 #[] #[{ accessFlags := 25, nameIndex := 507, descriptorIndex := 526, attributes := #[] }, { accessFlags := 25, nameIndex := 399, descriptorIndex := 155, attributes := #[] }, { accessFlags := 25, nameIndex := 396, descriptorIndex := 155, attributes := #[] }, { accessFlags := 10, nameIndex := 525, descriptorIndex := 526, attributes := #[] }, { accessFlags := 26, nameIndex := 674, descriptorIndex := 12, attributes := #[] }, { accessFlags := 26, nameIndex := 677, descriptorIndex := 12, attributes := #[] }, { accessFlags := 10, nameIndex := 11, descriptorIndex := 12, attributes := #[] }, { accessFlags := 74, nameIndex := 175, descriptorIndex := 176, attributes := #[] }, { accessFlags := 10, nameIndex := 491, descriptorIndex := 222, attributes := #[] }, { accessFlags := 74, nameIndex := 29, descriptorIndex := 30, attributes := #[] }, { accessFlags := 74, nameIndex := 154, descriptorIndex := 155, attributes := #[] }, { accessFlags := 10, nameIndex := 217, descriptorIndex := 218, attributes := #[] }, { accessFlags := 10, nameIndex := 221, descriptorIndex := 222, attributes := #[] }, { accessFlags := 8, nameIndex := 562, descriptorIndex := 563, attributes := #[] }])
  fields := #[{ name := "in", type := (.object "java/io/InputStream"), accessFlags := 25, slot := 0, constantValue := 0 }, { name := "out", type := (.object "java/io/PrintStream"), accessFlags := 25, slot := 1, constantValue := 0 }, { name := "err", type := (.object "java/io/PrintStream"), accessFlags := 25, slot := 2, constantValue := 0 }, { name := "initialIn", type := (.object "java/io/InputStream"), accessFlags := 10, slot := 3, constantValue := 0 }, { name := "NEVER", type := .int, accessFlags := 26, slot := 4, constantValue := 0 }, { name := "MAYBE", type := .int, accessFlags := 26, slot := 5, constantValue := 0 }, { name := "allowSecurityManager", type := .int, accessFlags := 10, slot := 6, constantValue := 0 }, { name := "security", type := (.object "java/lang/SecurityManager"), accessFlags := 74, slot := 7, constantValue := 0 }, { name := "notSupportedJnuEncoding", type := (.object "java/lang/String"), accessFlags := 10, slot := 8, constantValue := 0 }, { name := "cons", type := (.object "java/io/Console"), accessFlags := 74, slot := 9, constantValue := 0 }, { name := "initialErrStream", type := (.object "java/io/PrintStream"), accessFlags := 74, slot := 10, constantValue := 0 }, { name := "props", type := (.object "java/util/Properties"), accessFlags := 10, slot := 11, constantValue := 0 }, { name := "lineSeparator", type := (.object "java/lang/String"), accessFlags := 10, slot := 12, constantValue := 0 }, { name := "bootLayer", type := (.object "java/lang/ModuleLayer"), accessFlags := 8, slot := 13, constantValue := 0 }]
  methods := #[k3m0, k3m1]
  instanceTypes := #[]
  staticTypes := #[(.object "java/io/InputStream"), (.object "java/io/PrintStream"), (.object "java/io/PrintStream"), (.object "java/io/InputStream"), .int, .int, .int, (.object "java/lang/SecurityManager"), (.object "java/lang/String"), (.object "java/io/Console"), (.object "java/io/PrintStream"), (.object "java/util/Properties"), (.object "java/lang/String"), (.object "java/lang/ModuleLayer")]
  resolved := Array.replicate 834 none
  statics := none }

def pool4 : Array CpInfo := pool [(1, u "java/lang/Cloneable"), (0, .class_ 1), (0, u "java/lang/Object"), (0, .class_ 3)] 3

/-- java/lang/Cloneable -/
def k4 : Class := { plain "java/lang/Cloneable" (some 0) with
  accessFlags := 1537
  interfaces := #[]
  cf := some (fileOf pool4 2 #[] #[] 1537 4 #[] #[])
  fields := #[]
  methods := #[]
  instanceTypes := #[]
  staticTypes := #[]
  resolved := Array.replicate 8 none
  statics := none }

def pool5 : Array CpInfo := pool [(1, u "java/io/Serializable"), (0, .class_ 1), (0, u "java/lang/Object"), (0, .class_ 3)] 3

/-- java/io/Serializable -/
def k5 : Class := { plain "java/io/Serializable" (some 0) with
  accessFlags := 1537
  interfaces := #[]
  cf := some (fileOf pool5 2 #[] #[] 1537 4 #[] #[])
  fields := #[]
  methods := #[]
  instanceTypes := #[]
  staticTypes := #[]
  resolved := Array.replicate 8 none
  statics := none }

/-- the primitive byte -/
def k6 : Class := { plain "byte" none with kind := .primitive 'B', accessFlags := 0x411 }
/-- [B -/
def k7 : Class := { plain "[B" (some 0) with kind := .array 6 .byte, interfaces := #[4, 5], accessFlags := 1041 }

/-- the primitive int -/
def k8 : Class := { plain "int" none with kind := .primitive 'I', accessFlags := 0x411 }
/-- [I -/
def k9 : Class := { plain "[I" (some 0) with kind := .array 8 .int, interfaces := #[4, 5], accessFlags := 1041 }

def heap : Heap := #[]
def classes : Array Class := #[k0, k1, k2, k3, k4, k5, k6, k7, k8, k9]
def interned : List (Array UInt16 × Addr) := []
def slotsUsed : Nat := 0
def theMethod : MethodId := ⟨1, 1⟩
def args0 : Array Value := #[.int 3, .int 1, .int 2, .int 4, .int 5]
def aboutOver (below : List Frame) : State where
  vm := { classes := classes, interned := interned.toArray }
  heap := heap
  slotsUsed := slotsUsed
  threads := #[{ frames := .invoking theMethod args0 :: below }]
def below0 : List Frame := [.native { method := ⟨0, 0⟩, args := #[] }]
def about1 : State := aboutOver below0
def p0 : Program := .bare "" "" ""
def e0 : Env := launch0.env 0 0 0
theorem w_frames : about1.frames = Frame.invoking theMethod args0 :: below0 := rfl
set_option maxRecDepth 65536 in
theorem w_args : argsFit about1.vm theMethod args0 = true := by decide +kernel
set_option maxRecDepth 65536 in
theorem w_heap : heapFits about1 = true := by decide +kernel
set_option maxRecDepth 65536 in
theorem w_runnable : about1.curStatus? = some .runnable := by decide +kernel
set_option maxRecDepth 65536 in
theorem w_alone : about1.alone = true := by decide +kernel
set_option maxRecDepth 65536 in
theorem w_named : about1.methodNamed? x = some theMethod := by decide +kernel
set_option maxRecDepth 65536 in
theorem w_hears : about1.hears theMethod below0 = true := by decide +kernel
set_option maxRecDepth 65536 in
theorem w_ripe : about1.ripe theMethod args0 below0 = true := by decide +kernel
theorem w_running : about1.status = .running := rfl
set_option maxRecDepth 65536 in
theorem w_room : about1.hasRoom e0.platform room_1 = true :=
  launch0.hasRoom_least _ room_1 (by decide +kernel) (by decide +kernel) (by decide +kernel) (by decide +kernel) (by decide +kernel) (by decide +kernel)
theorem allAtoms_all (ts : List Jvm.Cond) (a : Array Jvm.Value) (st : Jvm.State) : (allAtoms ts).before a st = ts.all (fun c => c.before a st) := by
  induction ts with
  | nil => rfl
  | cons c t ih =>
    show (Jvm.Cond.and c (allAtoms t)).before a st = _
    rw [Jvm.Cond.before_and, ih, List.all_cons]
def words1 : List Jvm.Cond := Jvm.Cond.code x code maxLocals ret :: tables_1
/-- a 'code' word, met by the world's own term for the bytes: nothing is compared byte by byte -/
theorem code_word {y : MethodName} {bytes : ByteArray} {mx : Nat} {rt : Option FieldType} {a : Array Value} {s : State} {m : MethodId} {meth : Method} {c : Code} (h1 : s.methodNamed? y = some m) (h2 : s.vm.method? m = some meth) (h3 : meth.code = some c) (h4 : c.code = bytes)
    (h5 : (c.maxLocals == mx && c.exceptionTable.isEmpty && decide (c.maxStack ≤ mostOperands) && decide (meth.sig.returnType = rt) && !meth.locks && decide (parseMethodDescriptor y.desc = some meth.sig)) = true) : (Jvm.Cond.code y bytes mx rt).before a s = true := by
  simp only [Bool.and_eq_true, beq_iff_eq, Bool.not_eq_true', decide_eq_true_eq] at h5
  obtain ⟨⟨⟨⟨⟨g1, g2⟩, g3⟩, g4⟩, g5⟩, g6⟩ := h5
  simp [Cond.before, Cond.holds, Cond.value, h1, h2, h3, h4, g1, g2, g3, g4, g5, g6]
def isCode : Jvm.Cond → Bool
  | .code _ _ _ _ => true
  | _ => false
theorem all_split {L : List Jvm.Cond} {P : Jvm.Cond → Bool} (h1 : L.all (fun c => isCode c || P c) = true) (h2 : ∀ c ∈ L.filter isCode, P c = true) : L.all P = true := by
  refine List.all_eq_true.mpr fun c hc => ?_
  have h := List.all_eq_true.mp h1 c hc
  rcases Bool.eq_false_or_eq_true (isCode c) with hi | hi
  · exact h2 c (List.mem_filter.mpr ⟨hc, hi⟩)
  · simpa [hi] using h
set_option maxRecDepth 65536 in
theorem w_c0 : (Jvm.Cond.code x code maxLocals ret).before args0 about1 = true := code_word (m := ⟨1, 1⟩) (meth := k1m1) (c := k1c1) (by decide +kernel) rfl rfl rfl (by decide +kernel)
set_option maxRecDepth 65536 in
theorem w_c1 : (Jvm.Cond.code ({ cls := "com/example/restless_reasoner/restlessreasoner/engine/tableau/Premises", name := "isInequality", desc := "([I)Z" } : Jvm.MethodName) prog_45_method_5_code (1 : Nat) (Option.some Jvm.ClassFile.FieldType.boolean)).before args0 about1 = true := code_word (m := ⟨2, 1⟩) (meth := k2m1) (c := k2c1) (by decide +kernel) rfl rfl rfl (by decide +kernel)
set_option maxRecDepth 65536 in
theorem w_c2 : (Jvm.Cond.code ({ cls := "com/example/restless_reasoner/restlessreasoner/engine/tableau/Premises", name := "identity", desc := "(I[I)[I" } : Jvm.MethodName) prog_45_method_6_code (3 : Nat) (Option.some (Jvm.ClassFile.FieldType.array Jvm.ClassFile.FieldType.int))).before args0 about1 = true := code_word (m := ⟨2, 2⟩) (meth := k2m2) (c := k2c2) (by decide +kernel) rfl rfl rfl (by decide +kernel)
def codes1 : List Jvm.Cond := [Jvm.Cond.code x code maxLocals ret, Jvm.Cond.code ({ cls := "com/example/restless_reasoner/restlessreasoner/engine/tableau/Premises", name := "isInequality", desc := "([I)Z" } : Jvm.MethodName) prog_45_method_5_code (1 : Nat) (Option.some Jvm.ClassFile.FieldType.boolean), Jvm.Cond.code ({ cls := "com/example/restless_reasoner/restlessreasoner/engine/tableau/Premises", name := "identity", desc := "(I[I)[I" } : Jvm.MethodName) prog_45_method_6_code (3 : Nat) (Option.some (Jvm.ClassFile.FieldType.array Jvm.ClassFile.FieldType.int))]
set_option maxRecDepth 65536 in
theorem codes_eq : words1.filter isCode = codes1 := rfl
theorem w_codes : ∀ c ∈ words1.filter isCode, c.before args0 about1 = true := by
  rw [codes_eq]
  intro c hc
  simp only [codes1, List.mem_cons, List.not_mem_nil, or_false] at hc
  rcases hc with rfl | rfl | rfl
  · exact w_c0
  · exact w_c1
  · exact w_c2
set_option maxRecDepth 65536 in
theorem w_t1 : words1.all (fun c => isCode c || c.before args0 about1) = true := by decide +kernel
theorem w_tables : (allAtoms (Jvm.Cond.code x code maxLocals ret :: tables_1)).before args0 about1 = true := by
  rw [allAtoms_all]
  show words1.all (fun c => c.before args0 about1) = true
  refine all_split ?_ w_codes
  rw [w_t1]
set_option maxRecDepth 65536 in
theorem w_case : (Jvm.Cond.and given_1 narrow_1).before args0 about1 = true := by decide +kernel
theorem w_applies : (headSpec (Jvm.Cond.code x code maxLocals ret :: tables_1) room_1).applies x e0.platform about1 = true :=
  (Spec.applies_iff w_frames).mpr ⟨w_running, w_runnable, w_alone, w_named, w_hears, w_ripe, w_room, w_tables⟩
theorem atStart : AtStart classFile x code maxLocals ret World_1 tables_1 room_1 Calls_1 rest_1 Pre_1 launch0 p0 e0 about1 theMethod args0 below0 :=
  ⟨lists_1, trivial, launch0.admits_env _ _ _, launch0.least_env, fairChoices_fair.cas, fairChoices_fair.clock, w_frames, w_args, w_heap, w_applies, trivial, trivial, w_case⟩
end start1
theorem witness_1 : WitnessClaimed_1 := ⟨start1.p0, start1.e0, start1.about1, start1.theMethod, start1.args0, start1.below0, start1.atStart⟩
end Jvm.Pilot.@@N@@
