import JvmDerived
import JvmDerived.Pilot.@@N@@Statement
import JvmDerived.Pilot.@@N@@Code
set_option linter.unusedVariables false
set_option linter.unusedSimpArgs false
namespace Jvm.RoadKit
open Sem ClassFile Op Lib Jvm.Stand Jvm.Free Jvm.LawKit
section New
variable {p : Program} {l : Launch} {e : Env} {R : Room} {s : State} {m : MethodId} {args : Array Value} {below : List Frame} {meth : Method} {c : Code} {T : State} {locs : List Loc} {cells slots : Nat}
theorem retI (X : Stand p l e R s m args below meth c T locs cells slots) (hx : p.tables.exec = Jvm.exec) {pc : Nat} {Ls : Array Slot} {z : Int32} {rest : List Value} (hret : meth.sig.returnType = some .int) (hd : decode c.code pc = .ok (.ireturn, 1)) {fs : List Frame}
    (hl : ∀ (f : JFrame) (acts : List Action), f.method = m → f.locked = none → f.entered = [] → (doReturn e (T.setTop f) acts (some (.int z))).1 = T.setFrames fs) : Steps p.tables e below (T.setTop (mkF m pc Ls (.int z :: rest))) (T.setFrames fs) := by
  have hm' : T.vm.method? m = some meth := X.method'
  have hn : narrow .int (.int z) = .int z := rfl
  show Steps p.tables e below (T.setTop { method := m, pc := pc, locals := Ls, stack := _ :: rest, locked := none }) _
  jvm_step X.here [X.here.top, hx, hd, hm', hret, hn]
  first | (intro acts; rw [hl _ acts rfl rfl rfl]) | rw [hl _ _ rfl rfl rfl]
  exact Steps.refl _
theorem retJ (X : Stand p l e R s m args below meth c T locs cells slots) (hx : p.tables.exec = Jvm.exec) {pc : Nat} {Ls : Array Slot} {z : Int64} {rest : List Value} (hret : meth.sig.returnType = some .long) (hd : decode c.code pc = .ok (.lreturn, 1)) {fs : List Frame}
    (hl : ∀ (f : JFrame) (acts : List Action), f.method = m → f.locked = none → f.entered = [] → (doReturn e (T.setTop f) acts (some (.long z))).1 = T.setFrames fs) : Steps p.tables e below (T.setTop (mkF m pc Ls (.long z :: rest))) (T.setFrames fs) := by
  have hm' : T.vm.method? m = some meth := X.method'
  have hn : narrow .long (.long z) = .long z := rfl
  show Steps p.tables e below (T.setTop { method := m, pc := pc, locals := Ls, stack := _ :: rest, locked := none }) _
  jvm_step X.here [X.here.top, hx, hd, hm', hret, hn]
  first | (intro acts; rw [hl _ acts rfl rfl rfl]) | rw [hl _ _ rfl rfl rfl]
  exact Steps.refl _
end New
end Jvm.RoadKit
namespace Jvm.Pilot.@@N@@
open Jvm Jvm.ClassFile Sem Op Lib Jvm.Free Jvm.Stand Jvm.LawKit Jvm.RoadKit Bundle Jvm.Pilot.@@N@@.Jvm.D
def QV (w : Option Value) (h0 : Heap) (n0 : Nat) (v : Option Value) (h : Heap) (L : List Loc) : Prop := v = w ∧ Fr n0 L ∧ h = h0
def own_iseq (z w : Int32) : Int32 := if z < (3 : Int32) then (0 : Int32) else if w = (-2 : Int32) then (1 : Int32) else (0 : Int32)
def own_isne (z w : Int32) : Int32 := if z < (3 : Int32) then (0 : Int32) else if w = (-3 : Int32) then (1 : Int32) else (0 : Int32)
def own_link (z w : Int32) : Int32 := if z = (3 : Int32) then (if w < (0 : Int32) then (0 : Int32) else (1 : Int32)) else (0 : Int32)
def own_memb (z w : Int32) : Int32 := if z = (2 : Int32) then (1 : Int32) else (0 : Int32)
theorem own_one3 {z : Int32} (h : ¬ z < (3 : Int32)) : (1 : Int32) < z := by
  have a3 : (3 : Int32).toInt = 3 := by decide
  have a1 : (1 : Int32).toInt = 1 := by decide
  rw [Int32.lt_iff_toInt_lt] at h ⊢
  omega
theorem own_hat {cl : Cell} {z w : Int32} {vs : List Value} {d : Value} (S : cl.slots.size = z.toNatClampNeg) (H : Has cl vs d) (h1 : (1 : Int32) < z) (hv : vs.getD 1 d = .int w) : ¬ ((1 : Int32) < 0 ∨ cl.slots.size ≤ ((1 : Int32)).toNatClampNeg) ∧ cl.slots[((1 : Int32)).toNatClampNeg]? = some (.int w) := by
  have hin : ¬ ((1 : Int32) < 0 ∨ cl.slots.size ≤ ((1 : Int32)).toNatClampNeg) := inb_of S ⟨by decide, h1⟩
  refine ⟨hin, ?_⟩
  rw [← hv]
  exact H 1 (Nat.lt_of_not_le fun q => hin (Or.inr q))
def QI (Z : State) (z p : Int32) (h0 : Heap) (n0 : Nat) (v : Option Value) (h : Heap) (L : List Loc) : Prop := ∃ (b : Addr) (k : ClassId) (vs : List Value), v = some (.ref b) ∧ Fr n0 L ∧ Keep h0 h [] ∧ n0 ≤ b ∧ h0.size ≤ b ∧ Arv Z h b k .int (z + 1) vs (.int (0 : Int32)) ∧ vs.getD 1 (.int (0 : Int32)) = .int p
theorem d1_0 : decode prog_45_method_4_code 0 = .ok (.aload_n 0, 1) := by decide +kernel
theorem d1_1 : decode prog_45_method_4_code 1 = .ok (.arraylength, 1) := by decide +kernel
theorem d1_2 : decode prog_45_method_4_code 2 = .ok (.iconst 3, 1) := by decide +kernel
theorem d1_3 : decode prog_45_method_4_code 3 = .ok (.if_icmp .lt 15, 3) := by decide +kernel
theorem d1_18 : decode prog_45_method_4_code 18 = .ok (.iconst 0, 1) := by decide +kernel
theorem d1_19 : decode prog_45_method_4_code 19 = .ok (.ireturn, 1) := by decide +kernel
theorem pn_1 : plainName "com/example/restless_reasoner/restlessreasoner/engine/tableau/Premises" = true := by first | (simp [plainName, overriddenIn]; done) | decide +kernel
theorem ef_1 (m : MethodId) (x0 : Addr) : entryFrame m #[(.ref x0)] 1 = mkF m 0 #[.val (.ref x0)] [] := by first | (simp [entryFrame, mkF, argsToLocals, Value.category]; done) | rfl
theorem d1_6 : decode prog_45_method_4_code 6 = .ok (.aload_n 0, 1) := by decide +kernel
theorem d1_7 : decode prog_45_method_4_code 7 = .ok (.iconst 1, 1) := by decide +kernel
theorem d1_8 : decode prog_45_method_4_code 8 = .ok (.iaload, 1) := by decide +kernel
theorem d1_9 : decode prog_45_method_4_code 9 = .ok (.bipush (-2), 2) := by decide +kernel
theorem d1_11 : decode prog_45_method_4_code 11 = .ok (.if_icmp .ne 7, 3) := by decide +kernel
theorem d1_14 : decode prog_45_method_4_code 14 = .ok (.iconst 1, 1) := by decide +kernel
theorem d1_15 : decode prog_45_method_4_code 15 = .ok (.goto 4, 3) := by decide +kernel
set_option maxRecDepth 65536 in
set_option maxHeartbeats 40000000 in
theorem rm1_t (l : Launch) (Z : State) (a0 : Array Value) (hw : ∀ d ∈ tables_1, d.before a0 Z = true) (ws : List Jvm.Cond) (a1 : Addr) (cl_a1 : Cell) (z_a1 : Int32) (h0 : Heap) (n0 : Nat) (Z0 : n0 ≤ h0.size) (Ar_a1 : Arr Z h0 a1 cl_a1 .int) (S_a1 : cl_a1.slots.size = z_a1.toNatClampNeg) (N_a1 : ¬ z_a1 < 0) (hc3 : z_a1 < (3 : Int32)) :
    MetFree l (⟨"com/example/restless_reasoner/restlessreasoner/engine/tableau/Premises", "isEquality", "([I)Z"⟩ : MethodName) (head1 (Jvm.Cond.code (⟨"com/example/restless_reasoner/restlessreasoner/engine/tableau/Premises", "isEquality", "([I)Z"⟩ : MethodName) prog_45_method_4_code 1 (some .boolean) :: ws) ({ frames := 0, cells := 0, slots := 0, locals := 0 } : Room)) (fun a U => a = #[(.ref a1)] ∧ Z.Warmed39 U.vm ∧ U.heap = h0) (fun _ _ _ _ _ => True) (fun _ U o U' => ∃ v L, o = .returned v ∧ QV (some (.int (0 : Int32))) h0 n0 v U'.heap L ∧ FrameEnd U o U' L ({ frames := 0, cells := 0, slots := 0, locals := 0 } : Room).cells ({ frames := 0, cells := 0, slots := 0, locals := 0 } : Room).slots) := by
  refine MetFree.of_bodySF (plainFor_of_name pn_1) hisR ?_
  intro p e s m args below meth c s₁ Bd hml0 hP hK
  obtain ⟨rfl, hZ, hh⟩ := hP
  have hx := Bd.exec
  have hby := Bd.bytes
  have hml : c.maxLocals = 1 := hml0
  have hown : s.vm.findClass "com/example/restless_reasoner/restlessreasoner/engine/tableau/Premises" = some m.cls := findClass_of_methodNamed Bd.named
  have hnm := (name_of_methodNamed Bd.named Bd.method).1
  have X0 : Stand p l e ({ frames := 0, cells := 0, slots := 0, locals := 0 } : Room) s m #[(.ref a1)] below meth c s₁ [] 0 0 := Stand.of_body Bd
  have e0 : s₁.heap = h0 := by rw [← hh, Bd.state]; rfl
  have N0 := Fr.nil n0
  have pre0 : ∀ t, Steps p.tables e below (s₁.setTop (mkF m 0 #[.val (.ref a1)] [])) t → Steps p.tables e below (s₁.setTop (entryFrame m #[(.ref a1)] 1)) t := fun t k => castTop (ef_1 m a1) k

  obtain ⟨fs, hr, hrun, hended, hW, hsame⟩ := X0.leave (v := some (.int (0 : Int32))) (fun h => by rw [Bd.returns] at h; cases h)
  refine ⟨_, _, pre0 _ ?_, hrun, hended, _, _, rfl, ?_, ⟨_, rfl⟩, hW, hsame.mono (by decide) (by decide)⟩
  · show Steps p.tables e below (s₁.setTop (mkF m 0 #[.val (.ref a1)] [])) _
    refine XS.aloadN X0.here hx rfl (hb hby d1_0) rfl rfl ?_
    show Steps p.tables e below (s₁.setTop (mkF m 1 #[.val (.ref a1)] [(.ref a1)])) _
    refine X0.arraylength hx (by rw [e0]; exact Ar_a1.1) (State.isArrayOf_alike hZ.alike Ar_a1.2.1) (g := (mkF m 1 #[.val (.ref a1)] [(.ref a1)])) rfl rfl (hb hby d1_1) _ ?_
    rw [len_of S_a1 N_a1]
    show Steps p.tables e below (s₁.setTop (mkF m 2 #[.val (.ref a1)] [(.int z_a1)])) _
    refine XS.iconst X0.here hx rfl (hb hby d1_2) ?_
    show Steps p.tables e below (s₁.setTop (mkF m 3 #[.val (.ref a1)] [(.int (3 : Int32)), (.int z_a1)])) _
    refine XS.icmpYes X0.here hx rfl (pc0 := 3) (pc' := 18) rfl (hb hby d1_3) rfl (tlt hc3).1 (by decide) (by decide) ?_
    show Steps p.tables e below (s₁.setTop (mkF m 18 #[.val (.ref a1)] [])) _
    refine XS.iconst X0.here hx rfl (hb hby d1_18) ?_
    show Steps p.tables e below (s₁.setTop (mkF m 19 #[.val (.ref a1)] [(.int (0 : Int32))])) _
    exact retN X0 hx (t := .boolean) Bd.returns (by simp) (hb hby d1_19) hr
  · show QV (some (.int (0 : Int32))) h0 n0 _ s₁.heap _
    rw [e0]
    exact ⟨rfl, N0, rfl⟩
set_option maxRecDepth 65536 in
set_option maxHeartbeats 40000000 in
theorem rm1_ft (l : Launch) (Z : State) (a0 : Array Value) (hw : ∀ d ∈ tables_1, d.before a0 Z = true) (ws : List Jvm.Cond) (a1 : Addr) (cl_a1 : Cell) (z_a1 : Int32) (w2 : Int32) (h0 : Heap) (n0 : Nat) (Z0 : n0 ≤ h0.size) (Ar_a1 : Arr Z h0 a1 cl_a1 .int) (S_a1 : cl_a1.slots.size = z_a1.toNatClampNeg) (N_a1 : ¬ z_a1 < 0) (hin8 : ¬ ((1 : Int32) < 0 ∨ cl_a1.slots.size ≤ ((1 : Int32)).toNatClampNeg)) (hat8 : cl_a1.slots[((1 : Int32)).toNatClampNeg]? = some (.int w2)) (hc3 : ¬ (z_a1 < (3 : Int32))) (hc11 : ¬ (w2 = (-2 : Int32))) :
    MetFree l (⟨"com/example/restless_reasoner/restlessreasoner/engine/tableau/Premises", "isEquality", "([I)Z"⟩ : MethodName) (head1 (Jvm.Cond.code (⟨"com/example/restless_reasoner/restlessreasoner/engine/tableau/Premises", "isEquality", "([I)Z"⟩ : MethodName) prog_45_method_4_code 1 (some .boolean) :: ws) ({ frames := 0, cells := 0, slots := 0, locals := 0 } : Room)) (fun a U => a = #[(.ref a1)] ∧ Z.Warmed39 U.vm ∧ U.heap = h0) (fun _ _ _ _ _ => True) (fun _ U o U' => ∃ v L, o = .returned v ∧ QV (some (.int (0 : Int32))) h0 n0 v U'.heap L ∧ FrameEnd U o U' L ({ frames := 0, cells := 0, slots := 0, locals := 0 } : Room).cells ({ frames := 0, cells := 0, slots := 0, locals := 0 } : Room).slots) := by
  refine MetFree.of_bodySF (plainFor_of_name pn_1) hisR ?_
  intro p e s m args below meth c s₁ Bd hml0 hP hK
  obtain ⟨rfl, hZ, hh⟩ := hP
  have hx := Bd.exec
  have hby := Bd.bytes
  have hml : c.maxLocals = 1 := hml0
  have hown : s.vm.findClass "com/example/restless_reasoner/restlessreasoner/engine/tableau/Premises" = some m.cls := findClass_of_methodNamed Bd.named
  have hnm := (name_of_methodNamed Bd.named Bd.method).1
  have X0 : Stand p l e ({ frames := 0, cells := 0, slots := 0, locals := 0 } : Room) s m #[(.ref a1)] below meth c s₁ [] 0 0 := Stand.of_body Bd
  have e0 : s₁.heap = h0 := by rw [← hh, Bd.state]; rfl
  have N0 := Fr.nil n0
  have pre0 : ∀ t, Steps p.tables e below (s₁.setTop (mkF m 0 #[.val (.ref a1)] [])) t → Steps p.tables e below (s₁.setTop (entryFrame m #[(.ref a1)] 1)) t := fun t k => castTop (ef_1 m a1) k

  obtain ⟨fs, hr, hrun, hended, hW, hsame⟩ := X0.leave (v := some (.int (0 : Int32))) (fun h => by rw [Bd.returns] at h; cases h)
  refine ⟨_, _, pre0 _ ?_, hrun, hended, _, _, rfl, ?_, ⟨_, rfl⟩, hW, hsame.mono (by decide) (by decide)⟩
  · show Steps p.tables e below (s₁.setTop (mkF m 0 #[.val (.ref a1)] [])) _
    refine XS.aloadN X0.here hx rfl (hb hby d1_0) rfl rfl ?_
    show Steps p.tables e below (s₁.setTop (mkF m 1 #[.val (.ref a1)] [(.ref a1)])) _
    refine X0.arraylength hx (by rw [e0]; exact Ar_a1.1) (State.isArrayOf_alike hZ.alike Ar_a1.2.1) (g := (mkF m 1 #[.val (.ref a1)] [(.ref a1)])) rfl rfl (hb hby d1_1) _ ?_
    rw [len_of S_a1 N_a1]
    show Steps p.tables e below (s₁.setTop (mkF m 2 #[.val (.ref a1)] [(.int z_a1)])) _
    refine XS.iconst X0.here hx rfl (hb hby d1_2) ?_
    show Steps p.tables e below (s₁.setTop (mkF m 3 #[.val (.ref a1)] [(.int (3 : Int32)), (.int z_a1)])) _
    refine XS.icmpNo X0.here hx rfl (hb hby d1_3) rfl (flt hc3).1 ?_
    show Steps p.tables e below (s₁.setTop (mkF m 6 #[.val (.ref a1)] [])) _
    refine XS.aloadN X0.here hx rfl (hb hby d1_6) rfl rfl ?_
    show Steps p.tables e below (s₁.setTop (mkF m 7 #[.val (.ref a1)] [(.ref a1)])) _
    refine XS.iconst X0.here hx rfl (hb hby d1_7) ?_
    show Steps p.tables e below (s₁.setTop (mkF m 8 #[.val (.ref a1)] [(.int (1 : Int32)), (.ref a1)])) _
    refine X0.iaload hx (j := (1 : Int32)) (v := (.int w2)) (by rw [e0]; exact Ar_a1.1) (State.isArrayOf_alike hZ.alike Ar_a1.2.1) Ar_a1.2.2 hin8 hat8 (g := (mkF m 8 #[.val (.ref a1)] [(.int (1 : Int32)), (.ref a1)])) rfl rfl (hb hby d1_8) _ ?_
    show Steps p.tables e below (s₁.setTop (mkF m 9 #[.val (.ref a1)] [(.int w2)])) _
    refine XS.bipush X0.here hx rfl (hb hby d1_9) ?_
    show Steps p.tables e below (s₁.setTop (mkF m 11 #[.val (.ref a1)] [(.int (-2 : Int32)), (.int w2)])) _
    refine XS.icmpYes X0.here hx rfl (pc0 := 11) (pc' := 18) rfl (hb hby d1_11) rfl (feq hc11).2 (by decide) (by decide) ?_
    show Steps p.tables e below (s₁.setTop (mkF m 18 #[.val (.ref a1)] [])) _
    refine XS.iconst X0.here hx rfl (hb hby d1_18) ?_
    show Steps p.tables e below (s₁.setTop (mkF m 19 #[.val (.ref a1)] [(.int (0 : Int32))])) _
    exact retN X0 hx (t := .boolean) Bd.returns (by simp) (hb hby d1_19) hr
  · show QV (some (.int (0 : Int32))) h0 n0 _ s₁.heap _
    rw [e0]
    exact ⟨rfl, N0, rfl⟩
set_option maxRecDepth 65536 in
set_option maxHeartbeats 40000000 in
theorem rm1_ff (l : Launch) (Z : State) (a0 : Array Value) (hw : ∀ d ∈ tables_1, d.before a0 Z = true) (ws : List Jvm.Cond) (a1 : Addr) (cl_a1 : Cell) (z_a1 : Int32) (w2 : Int32) (h0 : Heap) (n0 : Nat) (Z0 : n0 ≤ h0.size) (Ar_a1 : Arr Z h0 a1 cl_a1 .int) (S_a1 : cl_a1.slots.size = z_a1.toNatClampNeg) (N_a1 : ¬ z_a1 < 0) (hin8 : ¬ ((1 : Int32) < 0 ∨ cl_a1.slots.size ≤ ((1 : Int32)).toNatClampNeg)) (hat8 : cl_a1.slots[((1 : Int32)).toNatClampNeg]? = some (.int w2)) (hc3 : ¬ (z_a1 < (3 : Int32))) (hc11 : w2 = (-2 : Int32)) :
    MetFree l (⟨"com/example/restless_reasoner/restlessreasoner/engine/tableau/Premises", "isEquality", "([I)Z"⟩ : MethodName) (head1 (Jvm.Cond.code (⟨"com/example/restless_reasoner/restlessreasoner/engine/tableau/Premises", "isEquality", "([I)Z"⟩ : MethodName) prog_45_method_4_code 1 (some .boolean) :: ws) ({ frames := 0, cells := 0, slots := 0, locals := 0 } : Room)) (fun a U => a = #[(.ref a1)] ∧ Z.Warmed39 U.vm ∧ U.heap = h0) (fun _ _ _ _ _ => True) (fun _ U o U' => ∃ v L, o = .returned v ∧ QV (some (.int (1 : Int32))) h0 n0 v U'.heap L ∧ FrameEnd U o U' L ({ frames := 0, cells := 0, slots := 0, locals := 0 } : Room).cells ({ frames := 0, cells := 0, slots := 0, locals := 0 } : Room).slots) := by
  refine MetFree.of_bodySF (plainFor_of_name pn_1) hisR ?_
  intro p e s m args below meth c s₁ Bd hml0 hP hK
  obtain ⟨rfl, hZ, hh⟩ := hP
  have hx := Bd.exec
  have hby := Bd.bytes
  have hml : c.maxLocals = 1 := hml0
  have hown : s.vm.findClass "com/example/restless_reasoner/restlessreasoner/engine/tableau/Premises" = some m.cls := findClass_of_methodNamed Bd.named
  have hnm := (name_of_methodNamed Bd.named Bd.method).1
  have X0 : Stand p l e ({ frames := 0, cells := 0, slots := 0, locals := 0 } : Room) s m #[(.ref a1)] below meth c s₁ [] 0 0 := Stand.of_body Bd
  have e0 : s₁.heap = h0 := by rw [← hh, Bd.state]; rfl
  have N0 := Fr.nil n0
  have pre0 : ∀ t, Steps p.tables e below (s₁.setTop (mkF m 0 #[.val (.ref a1)] [])) t → Steps p.tables e below (s₁.setTop (entryFrame m #[(.ref a1)] 1)) t := fun t k => castTop (ef_1 m a1) k

  obtain ⟨fs, hr, hrun, hended, hW, hsame⟩ := X0.leave (v := some (.int (1 : Int32))) (fun h => by rw [Bd.returns] at h; cases h)
  refine ⟨_, _, pre0 _ ?_, hrun, hended, _, _, rfl, ?_, ⟨_, rfl⟩, hW, hsame.mono (by decide) (by decide)⟩
  · show Steps p.tables e below (s₁.setTop (mkF m 0 #[.val (.ref a1)] [])) _
    refine XS.aloadN X0.here hx rfl (hb hby d1_0) rfl rfl ?_
    show Steps p.tables e below (s₁.setTop (mkF m 1 #[.val (.ref a1)] [(.ref a1)])) _
    refine X0.arraylength hx (by rw [e0]; exact Ar_a1.1) (State.isArrayOf_alike hZ.alike Ar_a1.2.1) (g := (mkF m 1 #[.val (.ref a1)] [(.ref a1)])) rfl rfl (hb hby d1_1) _ ?_
    rw [len_of S_a1 N_a1]
    show Steps p.tables e below (s₁.setTop (mkF m 2 #[.val (.ref a1)] [(.int z_a1)])) _
    refine XS.iconst X0.here hx rfl (hb hby d1_2) ?_
    show Steps p.tables e below (s₁.setTop (mkF m 3 #[.val (.ref a1)] [(.int (3 : Int32)), (.int z_a1)])) _
    refine XS.icmpNo X0.here hx rfl (hb hby d1_3) rfl (flt hc3).1 ?_
    show Steps p.tables e below (s₁.setTop (mkF m 6 #[.val (.ref a1)] [])) _
    refine XS.aloadN X0.here hx rfl (hb hby d1_6) rfl rfl ?_
    show Steps p.tables e below (s₁.setTop (mkF m 7 #[.val (.ref a1)] [(.ref a1)])) _
    refine XS.iconst X0.here hx rfl (hb hby d1_7) ?_
    show Steps p.tables e below (s₁.setTop (mkF m 8 #[.val (.ref a1)] [(.int (1 : Int32)), (.ref a1)])) _
    refine X0.iaload hx (j := (1 : Int32)) (v := (.int w2)) (by rw [e0]; exact Ar_a1.1) (State.isArrayOf_alike hZ.alike Ar_a1.2.1) Ar_a1.2.2 hin8 hat8 (g := (mkF m 8 #[.val (.ref a1)] [(.int (1 : Int32)), (.ref a1)])) rfl rfl (hb hby d1_8) _ ?_
    show Steps p.tables e below (s₁.setTop (mkF m 9 #[.val (.ref a1)] [(.int w2)])) _
    refine XS.bipush X0.here hx rfl (hb hby d1_9) ?_
    show Steps p.tables e below (s₁.setTop (mkF m 11 #[.val (.ref a1)] [(.int (-2 : Int32)), (.int w2)])) _
    refine XS.icmpNo X0.here hx rfl (hb hby d1_11) rfl (teq hc11).2 ?_
    show Steps p.tables e below (s₁.setTop (mkF m 14 #[.val (.ref a1)] [])) _
    refine XS.iconst X0.here hx rfl (hb hby d1_14) ?_
    show Steps p.tables e below (s₁.setTop (mkF m 15 #[.val (.ref a1)] [(.int (1 : Int32))])) _
    refine XS.goto X0.here hx rfl (pc0 := 15) (pc' := 19) rfl (hb hby d1_15) (by decide) (by decide) ?_
    show Steps p.tables e below (s₁.setTop (mkF m 19 #[.val (.ref a1)] [(.int (1 : Int32))])) _
    exact retN X0 hx (t := .boolean) Bd.returns (by simp) (hb hby d1_19) hr
  · show QV (some (.int (1 : Int32))) h0 n0 _ s₁.heap _
    rw [e0]
    exact ⟨rfl, N0, rfl⟩
theorem rm1 (l : Launch) (Z : State) (a0 : Array Value) (hw : ∀ d ∈ tables_1, d.before a0 Z = true) (ws : List Jvm.Cond) (a1 : Addr) (k : ClassId) (z : Int32) (vs : List Value) (w : Int32) (h0 : Heap) (n0 : Nat) (Z0 : n0 ≤ h0.size) (V : Arv Z h0 a1 k .int z vs (.int (0 : Int32))) (hv : (1 : Int32) < z → vs.getD 1 (.int (0 : Int32)) = .int w) :
    MetFree l (⟨"com/example/restless_reasoner/restlessreasoner/engine/tableau/Premises", "isEquality", "([I)Z"⟩ : MethodName) (head1 (Jvm.Cond.code (⟨"com/example/restless_reasoner/restlessreasoner/engine/tableau/Premises", "isEquality", "([I)Z"⟩ : MethodName) prog_45_method_4_code 1 (some .boolean) :: ws) ({ frames := 0, cells := 0, slots := 0, locals := 0 } : Room)) (fun a U => a = #[(.ref a1)] ∧ Z.Warmed39 U.vm ∧ U.heap = h0) (fun _ _ _ _ _ => True) (fun _ U o U' => ∃ v L, o = .returned v ∧ QV (some (.int (own_iseq z w))) h0 n0 v U'.heap L ∧ FrameEnd U o U' L ({ frames := 0, cells := 0, slots := 0, locals := 0 } : Room).cells ({ frames := 0, cells := 0, slots := 0, locals := 0 } : Room).slots) := by
  obtain ⟨cl, Ar, -, S, N, H, -⟩ := V
  by_cases hc3 : z < (3 : Int32)
  · have he : own_iseq z w = (0 : Int32) := by unfold own_iseq; rw [if_pos hc3]
    rw [he]; exact rm1_t l Z a0 hw ws a1 cl z h0 n0 Z0 Ar S N hc3
  · obtain ⟨hin, hat⟩ := own_hat S H (own_one3 hc3) (hv (own_one3 hc3))
    by_cases hc11 : w = (-2 : Int32)
    · have he : own_iseq z w = (1 : Int32) := by unfold own_iseq; rw [if_neg hc3, if_pos hc11]
      rw [he]; exact rm1_ff l Z a0 hw ws a1 cl z w h0 n0 Z0 Ar S N hin hat hc3 hc11
    · have he : own_iseq z w = (0 : Int32) := by unfold own_iseq; rw [if_neg hc3, if_neg hc11]
      rw [he]; exact rm1_ft l Z a0 hw ws a1 cl z w h0 n0 Z0 Ar S N hin hat hc3 hc11
theorem d3_0 : decode prog_45_method_5_code 0 = .ok (.aload_n 0, 1) := by decide +kernel
theorem d3_1 : decode prog_45_method_5_code 1 = .ok (.arraylength, 1) := by decide +kernel
theorem d3_2 : decode prog_45_method_5_code 2 = .ok (.iconst 3, 1) := by decide +kernel
theorem d3_3 : decode prog_45_method_5_code 3 = .ok (.if_icmp .lt 15, 3) := by decide +kernel
theorem d3_18 : decode prog_45_method_5_code 18 = .ok (.iconst 0, 1) := by decide +kernel
theorem d3_19 : decode prog_45_method_5_code 19 = .ok (.ireturn, 1) := by decide +kernel
theorem pn_3 : plainName "com/example/restless_reasoner/restlessreasoner/engine/tableau/Premises" = true := by first | (simp [plainName, overriddenIn]; done) | decide +kernel
theorem ef_3 (m : MethodId) (x0 : Addr) : entryFrame m #[(.ref x0)] 1 = mkF m 0 #[.val (.ref x0)] [] := by first | (simp [entryFrame, mkF, argsToLocals, Value.category]; done) | rfl
theorem d3_6 : decode prog_45_method_5_code 6 = .ok (.aload_n 0, 1) := by decide +kernel
theorem d3_7 : decode prog_45_method_5_code 7 = .ok (.iconst 1, 1) := by decide +kernel
theorem d3_8 : decode prog_45_method_5_code 8 = .ok (.iaload, 1) := by decide +kernel
theorem d3_9 : decode prog_45_method_5_code 9 = .ok (.bipush (-3), 2) := by decide +kernel
theorem d3_11 : decode prog_45_method_5_code 11 = .ok (.if_icmp .ne 7, 3) := by decide +kernel
theorem d3_14 : decode prog_45_method_5_code 14 = .ok (.iconst 1, 1) := by decide +kernel
theorem d3_15 : decode prog_45_method_5_code 15 = .ok (.goto 4, 3) := by decide +kernel
set_option maxRecDepth 65536 in
set_option maxHeartbeats 40000000 in
theorem rm3_t (l : Launch) (Z : State) (a0 : Array Value) (hw : ∀ d ∈ tables_1, d.before a0 Z = true) (ws : List Jvm.Cond) (a1 : Addr) (cl_a1 : Cell) (z_a1 : Int32) (h0 : Heap) (n0 : Nat) (Z0 : n0 ≤ h0.size) (Ar_a1 : Arr Z h0 a1 cl_a1 .int) (S_a1 : cl_a1.slots.size = z_a1.toNatClampNeg) (N_a1 : ¬ z_a1 < 0) (hc3 : z_a1 < (3 : Int32)) :
    MetFree l (⟨"com/example/restless_reasoner/restlessreasoner/engine/tableau/Premises", "isInequality", "([I)Z"⟩ : MethodName) (head1 (Jvm.Cond.code (⟨"com/example/restless_reasoner/restlessreasoner/engine/tableau/Premises", "isInequality", "([I)Z"⟩ : MethodName) prog_45_method_5_code 1 (some .boolean) :: ws) ({ frames := 0, cells := 0, slots := 0, locals := 0 } : Room)) (fun a U => a = #[(.ref a1)] ∧ Z.Warmed39 U.vm ∧ U.heap = h0) (fun _ _ _ _ _ => True) (fun _ U o U' => ∃ v L, o = .returned v ∧ QV (some (.int (0 : Int32))) h0 n0 v U'.heap L ∧ FrameEnd U o U' L ({ frames := 0, cells := 0, slots := 0, locals := 0 } : Room).cells ({ frames := 0, cells := 0, slots := 0, locals := 0 } : Room).slots) := by
  refine MetFree.of_bodySF (plainFor_of_name pn_3) hisR ?_
  intro p e s m args below meth c s₁ Bd hml0 hP hK
  obtain ⟨rfl, hZ, hh⟩ := hP
  have hx := Bd.exec
  have hby := Bd.bytes
  have hml : c.maxLocals = 1 := hml0
  have hown : s.vm.findClass "com/example/restless_reasoner/restlessreasoner/engine/tableau/Premises" = some m.cls := findClass_of_methodNamed Bd.named
  have hnm := (name_of_methodNamed Bd.named Bd.method).1
  have X0 : Stand p l e ({ frames := 0, cells := 0, slots := 0, locals := 0 } : Room) s m #[(.ref a1)] below meth c s₁ [] 0 0 := Stand.of_body Bd
  have e0 : s₁.heap = h0 := by rw [← hh, Bd.state]; rfl
  have N0 := Fr.nil n0
  have pre0 : ∀ t, Steps p.tables e below (s₁.setTop (mkF m 0 #[.val (.ref a1)] [])) t → Steps p.tables e below (s₁.setTop (entryFrame m #[(.ref a1)] 1)) t := fun t k => castTop (ef_3 m a1) k

  obtain ⟨fs, hr, hrun, hended, hW, hsame⟩ := X0.leave (v := some (.int (0 : Int32))) (fun h => by rw [Bd.returns] at h; cases h)
  refine ⟨_, _, pre0 _ ?_, hrun, hended, _, _, rfl, ?_, ⟨_, rfl⟩, hW, hsame.mono (by decide) (by decide)⟩
  · show Steps p.tables e below (s₁.setTop (mkF m 0 #[.val (.ref a1)] [])) _
    refine XS.aloadN X0.here hx rfl (hb hby d3_0) rfl rfl ?_
    show Steps p.tables e below (s₁.setTop (mkF m 1 #[.val (.ref a1)] [(.ref a1)])) _
    refine X0.arraylength hx (by rw [e0]; exact Ar_a1.1) (State.isArrayOf_alike hZ.alike Ar_a1.2.1) (g := (mkF m 1 #[.val (.ref a1)] [(.ref a1)])) rfl rfl (hb hby d3_1) _ ?_
    rw [len_of S_a1 N_a1]
    show Steps p.tables e below (s₁.setTop (mkF m 2 #[.val (.ref a1)] [(.int z_a1)])) _
    refine XS.iconst X0.here hx rfl (hb hby d3_2) ?_
    show Steps p.tables e below (s₁.setTop (mkF m 3 #[.val (.ref a1)] [(.int (3 : Int32)), (.int z_a1)])) _
    refine XS.icmpYes X0.here hx rfl (pc0 := 3) (pc' := 18) rfl (hb hby d3_3) rfl (tlt hc3).1 (by decide) (by decide) ?_
    show Steps p.tables e below (s₁.setTop (mkF m 18 #[.val (.ref a1)] [])) _
    refine XS.iconst X0.here hx rfl (hb hby d3_18) ?_
    show Steps p.tables e below (s₁.setTop (mkF m 19 #[.val (.ref a1)] [(.int (0 : Int32))])) _
    exact retN X0 hx (t := .boolean) Bd.returns (by simp) (hb hby d3_19) hr
  · show QV (some (.int (0 : Int32))) h0 n0 _ s₁.heap _
    rw [e0]
    exact ⟨rfl, N0, rfl⟩
set_option maxRecDepth 65536 in
set_option maxHeartbeats 40000000 in
theorem rm3_ft (l : Launch) (Z : State) (a0 : Array Value) (hw : ∀ d ∈ tables_1, d.before a0 Z = true) (ws : List Jvm.Cond) (a1 : Addr) (cl_a1 : Cell) (z_a1 : Int32) (w2 : Int32) (h0 : Heap) (n0 : Nat) (Z0 : n0 ≤ h0.size) (Ar_a1 : Arr Z h0 a1 cl_a1 .int) (S_a1 : cl_a1.slots.size = z_a1.toNatClampNeg) (N_a1 : ¬ z_a1 < 0) (hin8 : ¬ ((1 : Int32) < 0 ∨ cl_a1.slots.size ≤ ((1 : Int32)).toNatClampNeg)) (hat8 : cl_a1.slots[((1 : Int32)).toNatClampNeg]? = some (.int w2)) (hc3 : ¬ (z_a1 < (3 : Int32))) (hc11 : ¬ (w2 = (-3 : Int32))) :
    MetFree l (⟨"com/example/restless_reasoner/restlessreasoner/engine/tableau/Premises", "isInequality", "([I)Z"⟩ : MethodName) (head1 (Jvm.Cond.code (⟨"com/example/restless_reasoner/restlessreasoner/engine/tableau/Premises", "isInequality", "([I)Z"⟩ : MethodName) prog_45_method_5_code 1 (some .boolean) :: ws) ({ frames := 0, cells := 0, slots := 0, locals := 0 } : Room)) (fun a U => a = #[(.ref a1)] ∧ Z.Warmed39 U.vm ∧ U.heap = h0) (fun _ _ _ _ _ => True) (fun _ U o U' => ∃ v L, o = .returned v ∧ QV (some (.int (0 : Int32))) h0 n0 v U'.heap L ∧ FrameEnd U o U' L ({ frames := 0, cells := 0, slots := 0, locals := 0 } : Room).cells ({ frames := 0, cells := 0, slots := 0, locals := 0 } : Room).slots) := by
  refine MetFree.of_bodySF (plainFor_of_name pn_3) hisR ?_
  intro p e s m args below meth c s₁ Bd hml0 hP hK
  obtain ⟨rfl, hZ, hh⟩ := hP
  have hx := Bd.exec
  have hby := Bd.bytes
  have hml : c.maxLocals = 1 := hml0
  have hown : s.vm.findClass "com/example/restless_reasoner/restlessreasoner/engine/tableau/Premises" = some m.cls := findClass_of_methodNamed Bd.named
  have hnm := (name_of_methodNamed Bd.named Bd.method).1
  have X0 : Stand p l e ({ frames := 0, cells := 0, slots := 0, locals := 0 } : Room) s m #[(.ref a1)] below meth c s₁ [] 0 0 := Stand.of_body Bd
  have e0 : s₁.heap = h0 := by rw [← hh, Bd.state]; rfl
  have N0 := Fr.nil n0
  have pre0 : ∀ t, Steps p.tables e below (s₁.setTop (mkF m 0 #[.val (.ref a1)] [])) t → Steps p.tables e below (s₁.setTop (entryFrame m #[(.ref a1)] 1)) t := fun t k => castTop (ef_3 m a1) k

  obtain ⟨fs, hr, hrun, hended, hW, hsame⟩ := X0.leave (v := some (.int (0 : Int32))) (fun h => by rw [Bd.returns] at h; cases h)
  refine ⟨_, _, pre0 _ ?_, hrun, hended, _, _, rfl, ?_, ⟨_, rfl⟩, hW, hsame.mono (by decide) (by decide)⟩
  · show Steps p.tables e below (s₁.setTop (mkF m 0 #[.val (.ref a1)] [])) _
    refine XS.aloadN X0.here hx rfl (hb hby d3_0) rfl rfl ?_
    show Steps p.tables e below (s₁.setTop (mkF m 1 #[.val (.ref a1)] [(.ref a1)])) _
    refine X0.arraylength hx (by rw [e0]; exact Ar_a1.1) (State.isArrayOf_alike hZ.alike Ar_a1.2.1) (g := (mkF m 1 #[.val (.ref a1)] [(.ref a1)])) rfl rfl (hb hby d3_1) _ ?_
    rw [len_of S_a1 N_a1]
    show Steps p.tables e below (s₁.setTop (mkF m 2 #[.val (.ref a1)] [(.int z_a1)])) _
    refine XS.iconst X0.here hx rfl (hb hby d3_2) ?_
    show Steps p.tables e below (s₁.setTop (mkF m 3 #[.val (.ref a1)] [(.int (3 : Int32)), (.int z_a1)])) _
    refine XS.icmpNo X0.here hx rfl (hb hby d3_3) rfl (flt hc3).1 ?_
    show Steps p.tables e below (s₁.setTop (mkF m 6 #[.val (.ref a1)] [])) _
    refine XS.aloadN X0.here hx rfl (hb hby d3_6) rfl rfl ?_
    show Steps p.tables e below (s₁.setTop (mkF m 7 #[.val (.ref a1)] [(.ref a1)])) _
    refine XS.iconst X0.here hx rfl (hb hby d3_7) ?_
    show Steps p.tables e below (s₁.setTop (mkF m 8 #[.val (.ref a1)] [(.int (1 : Int32)), (.ref a1)])) _
    refine X0.iaload hx (j := (1 : Int32)) (v := (.int w2)) (by rw [e0]; exact Ar_a1.1) (State.isArrayOf_alike hZ.alike Ar_a1.2.1) Ar_a1.2.2 hin8 hat8 (g := (mkF m 8 #[.val (.ref a1)] [(.int (1 : Int32)), (.ref a1)])) rfl rfl (hb hby d3_8) _ ?_
    show Steps p.tables e below (s₁.setTop (mkF m 9 #[.val (.ref a1)] [(.int w2)])) _
    refine XS.bipush X0.here hx rfl (hb hby d3_9) ?_
    show Steps p.tables e below (s₁.setTop (mkF m 11 #[.val (.ref a1)] [(.int (-3 : Int32)), (.int w2)])) _
    refine XS.icmpYes X0.here hx rfl (pc0 := 11) (pc' := 18) rfl (hb hby d3_11) rfl (feq hc11).2 (by decide) (by decide) ?_
    show Steps p.tables e below (s₁.setTop (mkF m 18 #[.val (.ref a1)] [])) _
    refine XS.iconst X0.here hx rfl (hb hby d3_18) ?_
    show Steps p.tables e below (s₁.setTop (mkF m 19 #[.val (.ref a1)] [(.int (0 : Int32))])) _
    exact retN X0 hx (t := .boolean) Bd.returns (by simp) (hb hby d3_19) hr
  · show QV (some (.int (0 : Int32))) h0 n0 _ s₁.heap _
    rw [e0]
    exact ⟨rfl, N0, rfl⟩
set_option maxRecDepth 65536 in
set_option maxHeartbeats 40000000 in
theorem rm3_ff (l : Launch) (Z : State) (a0 : Array Value) (hw : ∀ d ∈ tables_1, d.before a0 Z = true) (ws : List Jvm.Cond) (a1 : Addr) (cl_a1 : Cell) (z_a1 : Int32) (w2 : Int32) (h0 : Heap) (n0 : Nat) (Z0 : n0 ≤ h0.size) (Ar_a1 : Arr Z h0 a1 cl_a1 .int) (S_a1 : cl_a1.slots.size = z_a1.toNatClampNeg) (N_a1 : ¬ z_a1 < 0) (hin8 : ¬ ((1 : Int32) < 0 ∨ cl_a1.slots.size ≤ ((1 : Int32)).toNatClampNeg)) (hat8 : cl_a1.slots[((1 : Int32)).toNatClampNeg]? = some (.int w2)) (hc3 : ¬ (z_a1 < (3 : Int32))) (hc11 : w2 = (-3 : Int32)) :
    MetFree l (⟨"com/example/restless_reasoner/restlessreasoner/engine/tableau/Premises", "isInequality", "([I)Z"⟩ : MethodName) (head1 (Jvm.Cond.code (⟨"com/example/restless_reasoner/restlessreasoner/engine/tableau/Premises", "isInequality", "([I)Z"⟩ : MethodName) prog_45_method_5_code 1 (some .boolean) :: ws) ({ frames := 0, cells := 0, slots := 0, locals := 0 } : Room)) (fun a U => a = #[(.ref a1)] ∧ Z.Warmed39 U.vm ∧ U.heap = h0) (fun _ _ _ _ _ => True) (fun _ U o U' => ∃ v L, o = .returned v ∧ QV (some (.int (1 : Int32))) h0 n0 v U'.heap L ∧ FrameEnd U o U' L ({ frames := 0, cells := 0, slots := 0, locals := 0 } : Room).cells ({ frames := 0, cells := 0, slots := 0, locals := 0 } : Room).slots) := by
  refine MetFree.of_bodySF (plainFor_of_name pn_3) hisR ?_
  intro p e s m args below meth c s₁ Bd hml0 hP hK
  obtain ⟨rfl, hZ, hh⟩ := hP
  have hx := Bd.exec
  have hby := Bd.bytes
  have hml : c.maxLocals = 1 := hml0
  have hown : s.vm.findClass "com/example/restless_reasoner/restlessreasoner/engine/tableau/Premises" = some m.cls := findClass_of_methodNamed Bd.named
  have hnm := (name_of_methodNamed Bd.named Bd.method).1
  have X0 : Stand p l e ({ frames := 0, cells := 0, slots := 0, locals := 0 } : Room) s m #[(.ref a1)] below meth c s₁ [] 0 0 := Stand.of_body Bd
  have e0 : s₁.heap = h0 := by rw [← hh, Bd.state]; rfl
  have N0 := Fr.nil n0
  have pre0 : ∀ t, Steps p.tables e below (s₁.setTop (mkF m 0 #[.val (.ref a1)] [])) t → Steps p.tables e below (s₁.setTop (entryFrame m #[(.ref a1)] 1)) t := fun t k => castTop (ef_3 m a1) k

  obtain ⟨fs, hr, hrun, hended, hW, hsame⟩ := X0.leave (v := some (.int (1 : Int32))) (fun h => by rw [Bd.returns] at h; cases h)
  refine ⟨_, _, pre0 _ ?_, hrun, hended, _, _, rfl, ?_, ⟨_, rfl⟩, hW, hsame.mono (by decide) (by decide)⟩
  · show Steps p.tables e below (s₁.setTop (mkF m 0 #[.val (.ref a1)] [])) _
    refine XS.aloadN X0.here hx rfl (hb hby d3_0) rfl rfl ?_
    show Steps p.tables e below (s₁.setTop (mkF m 1 #[.val (.ref a1)] [(.ref a1)])) _
    refine X0.arraylength hx (by rw [e0]; exact Ar_a1.1) (State.isArrayOf_alike hZ.alike Ar_a1.2.1) (g := (mkF m 1 #[.val (.ref a1)] [(.ref a1)])) rfl rfl (hb hby d3_1) _ ?_
    rw [len_of S_a1 N_a1]
    show Steps p.tables e below (s₁.setTop (mkF m 2 #[.val (.ref a1)] [(.int z_a1)])) _
    refine XS.iconst X0.here hx rfl (hb hby d3_2) ?_
    show Steps p.tables e below (s₁.setTop (mkF m 3 #[.val (.ref a1)] [(.int (3 : Int32)), (.int z_a1)])) _
    refine XS.icmpNo X0.here hx rfl (hb hby d3_3) rfl (flt hc3).1 ?_
    show Steps p.tables e below (s₁.setTop (mkF m 6 #[.val (.ref a1)] [])) _
    refine XS.aloadN X0.here hx rfl (hb hby d3_6) rfl rfl ?_
    show Steps p.tables e below (s₁.setTop (mkF m 7 #[.val (.ref a1)] [(.ref a1)])) _
    refine XS.iconst X0.here hx rfl (hb hby d3_7) ?_
    show Steps p.tables e below (s₁.setTop (mkF m 8 #[.val (.ref a1)] [(.int (1 : Int32)), (.ref a1)])) _
    refine X0.iaload hx (j := (1 : Int32)) (v := (.int w2)) (by rw [e0]; exact Ar_a1.1) (State.isArrayOf_alike hZ.alike Ar_a1.2.1) Ar_a1.2.2 hin8 hat8 (g := (mkF m 8 #[.val (.ref a1)] [(.int (1 : Int32)), (.ref a1)])) rfl rfl (hb hby d3_8) _ ?_
    show Steps p.tables e below (s₁.setTop (mkF m 9 #[.val (.ref a1)] [(.int w2)])) _
    refine XS.bipush X0.here hx rfl (hb hby d3_9) ?_
    show Steps p.tables e below (s₁.setTop (mkF m 11 #[.val (.ref a1)] [(.int (-3 : Int32)), (.int w2)])) _
    refine XS.icmpNo X0.here hx rfl (hb hby d3_11) rfl (teq hc11).2 ?_
    show Steps p.tables e below (s₁.setTop (mkF m 14 #[.val (.ref a1)] [])) _
    refine XS.iconst X0.here hx rfl (hb hby d3_14) ?_
    show Steps p.tables e below (s₁.setTop (mkF m 15 #[.val (.ref a1)] [(.int (1 : Int32))])) _
    refine XS.goto X0.here hx rfl (pc0 := 15) (pc' := 19) rfl (hb hby d3_15) (by decide) (by decide) ?_
    show Steps p.tables e below (s₁.setTop (mkF m 19 #[.val (.ref a1)] [(.int (1 : Int32))])) _
    exact retN X0 hx (t := .boolean) Bd.returns (by simp) (hb hby d3_19) hr
  · show QV (some (.int (1 : Int32))) h0 n0 _ s₁.heap _
    rw [e0]
    exact ⟨rfl, N0, rfl⟩
theorem rm3 (l : Launch) (Z : State) (a0 : Array Value) (hw : ∀ d ∈ tables_1, d.before a0 Z = true) (ws : List Jvm.Cond) (a1 : Addr) (k : ClassId) (z : Int32) (vs : List Value) (w : Int32) (h0 : Heap) (n0 : Nat) (Z0 : n0 ≤ h0.size) (V : Arv Z h0 a1 k .int z vs (.int (0 : Int32))) (hv : (1 : Int32) < z → vs.getD 1 (.int (0 : Int32)) = .int w) :
    MetFree l (⟨"com/example/restless_reasoner/restlessreasoner/engine/tableau/Premises", "isInequality", "([I)Z"⟩ : MethodName) (head1 (Jvm.Cond.code (⟨"com/example/restless_reasoner/restlessreasoner/engine/tableau/Premises", "isInequality", "([I)Z"⟩ : MethodName) prog_45_method_5_code 1 (some .boolean) :: ws) ({ frames := 0, cells := 0, slots := 0, locals := 0 } : Room)) (fun a U => a = #[(.ref a1)] ∧ Z.Warmed39 U.vm ∧ U.heap = h0) (fun _ _ _ _ _ => True) (fun _ U o U' => ∃ v L, o = .returned v ∧ QV (some (.int (own_isne z w))) h0 n0 v U'.heap L ∧ FrameEnd U o U' L ({ frames := 0, cells := 0, slots := 0, locals := 0 } : Room).cells ({ frames := 0, cells := 0, slots := 0, locals := 0 } : Room).slots) := by
  obtain ⟨cl, Ar, -, S, N, H, -⟩ := V
  by_cases hc3 : z < (3 : Int32)
  · have he : own_isne z w = (0 : Int32) := by unfold own_isne; rw [if_pos hc3]
    rw [he]; exact rm3_t l Z a0 hw ws a1 cl z h0 n0 Z0 Ar S N hc3
  · obtain ⟨hin, hat⟩ := own_hat S H (own_one3 hc3) (hv (own_one3 hc3))
    by_cases hc11 : w = (-3 : Int32)
    · have he : own_isne z w = (1 : Int32) := by unfold own_isne; rw [if_neg hc3, if_pos hc11]
      rw [he]; exact rm3_ff l Z a0 hw ws a1 cl z w h0 n0 Z0 Ar S N hin hat hc3 hc11
    · have he : own_isne z w = (0 : Int32) := by unfold own_isne; rw [if_neg hc3, if_neg hc11]
      rw [he]; exact rm3_ft l Z a0 hw ws a1 cl z w h0 n0 Z0 Ar S N hin hat hc3 hc11
theorem d4_0 : decode prog_45_method_3_code 0 = .ok (.aload_n 0, 1) := by decide +kernel
theorem d4_1 : decode prog_45_method_3_code 1 = .ok (.arraylength, 1) := by decide +kernel
theorem d4_2 : decode prog_45_method_3_code 2 = .ok (.iconst 3, 1) := by decide +kernel
theorem d4_3 : decode prog_45_method_3_code 3 = .ok (.if_icmp .ne 13, 3) := by decide +kernel
theorem d4_16 : decode prog_45_method_3_code 16 = .ok (.iconst 0, 1) := by decide +kernel
theorem d4_17 : decode prog_45_method_3_code 17 = .ok (.ireturn, 1) := by decide +kernel
theorem pn_4 : plainName "com/example/restless_reasoner/restlessreasoner/engine/tableau/Premises" = true := by first | (simp [plainName, overriddenIn]; done) | decide +kernel
theorem ef_4 (m : MethodId) (x0 : Addr) : entryFrame m #[(.ref x0)] 1 = mkF m 0 #[.val (.ref x0)] [] := by first | (simp [entryFrame, mkF, argsToLocals, Value.category]; done) | rfl
theorem d4_6 : decode prog_45_method_3_code 6 = .ok (.aload_n 0, 1) := by decide +kernel
theorem d4_7 : decode prog_45_method_3_code 7 = .ok (.iconst 1, 1) := by decide +kernel
theorem d4_8 : decode prog_45_method_3_code 8 = .ok (.iaload, 1) := by decide +kernel
theorem d4_9 : decode prog_45_method_3_code 9 = .ok (.ifCond .lt 7, 3) := by decide +kernel
theorem d4_12 : decode prog_45_method_3_code 12 = .ok (.iconst 1, 1) := by decide +kernel
theorem d4_13 : decode prog_45_method_3_code 13 = .ok (.goto 4, 3) := by decide +kernel
set_option maxRecDepth 65536 in
set_option maxHeartbeats 40000000 in
theorem rm4_t (l : Launch) (Z : State) (a0 : Array Value) (hw : ∀ d ∈ tables_1, d.before a0 Z = true) (ws : List Jvm.Cond) (a1 : Addr) (cl_a1 : Cell) (z_a1 : Int32) (h0 : Heap) (n0 : Nat) (Z0 : n0 ≤ h0.size) (Ar_a1 : Arr Z h0 a1 cl_a1 .int) (S_a1 : cl_a1.slots.size = z_a1.toNatClampNeg) (N_a1 : ¬ z_a1 < 0) (hc3 : ¬ (z_a1 = (3 : Int32))) :
    MetFree l (⟨"com/example/restless_reasoner/restlessreasoner/engine/tableau/Premises", "isLink", "([I)Z"⟩ : MethodName) (head1 (Jvm.Cond.code (⟨"com/example/restless_reasoner/restlessreasoner/engine/tableau/Premises", "isLink", "([I)Z"⟩ : MethodName) prog_45_method_3_code 1 (some .boolean) :: ws) ({ frames := 0, cells := 0, slots := 0, locals := 0 } : Room)) (fun a U => a = #[(.ref a1)] ∧ Z.Warmed39 U.vm ∧ U.heap = h0) (fun _ _ _ _ _ => True) (fun _ U o U' => ∃ v L, o = .returned v ∧ QV (some (.int (0 : Int32))) h0 n0 v U'.heap L ∧ FrameEnd U o U' L ({ frames := 0, cells := 0, slots := 0, locals := 0 } : Room).cells ({ frames := 0, cells := 0, slots := 0, locals := 0 } : Room).slots) := by
  refine MetFree.of_bodySF (plainFor_of_name pn_4) hisR ?_
  intro p e s m args below meth c s₁ Bd hml0 hP hK
  obtain ⟨rfl, hZ, hh⟩ := hP
  have hx := Bd.exec
  have hby := Bd.bytes
  have hml : c.maxLocals = 1 := hml0
  have hown : s.vm.findClass "com/example/restless_reasoner/restlessreasoner/engine/tableau/Premises" = some m.cls := findClass_of_methodNamed Bd.named
  have hnm := (name_of_methodNamed Bd.named Bd.method).1
  have X0 : Stand p l e ({ frames := 0, cells := 0, slots := 0, locals := 0 } : Room) s m #[(.ref a1)] below meth c s₁ [] 0 0 := Stand.of_body Bd
  have e0 : s₁.heap = h0 := by rw [← hh, Bd.state]; rfl
  have N0 := Fr.nil n0
  have pre0 : ∀ t, Steps p.tables e below (s₁.setTop (mkF m 0 #[.val (.ref a1)] [])) t → Steps p.tables e below (s₁.setTop (entryFrame m #[(.ref a1)] 1)) t := fun t k => castTop (ef_4 m a1) k

  obtain ⟨fs, hr, hrun, hended, hW, hsame⟩ := X0.leave (v := some (.int (0 : Int32))) (fun h => by rw [Bd.returns] at h; cases h)
  refine ⟨_, _, pre0 _ ?_, hrun, hended, _, _, rfl, ?_, ⟨_, rfl⟩, hW, hsame.mono (by decide) (by decide)⟩
  · show Steps p.tables e below (s₁.setTop (mkF m 0 #[.val (.ref a1)] [])) _
    refine XS.aloadN X0.here hx rfl (hb hby d4_0) rfl rfl ?_
    show Steps p.tables e below (s₁.setTop (mkF m 1 #[.val (.ref a1)] [(.ref a1)])) _
    refine X0.arraylength hx (by rw [e0]; exact Ar_a1.1) (State.isArrayOf_alike hZ.alike Ar_a1.2.1) (g := (mkF m 1 #[.val (.ref a1)] [(.ref a1)])) rfl rfl (hb hby d4_1) _ ?_
    rw [len_of S_a1 N_a1]
    show Steps p.tables e below (s₁.setTop (mkF m 2 #[.val (.ref a1)] [(.int z_a1)])) _
    refine XS.iconst X0.here hx rfl (hb hby d4_2) ?_
    show Steps p.tables e below (s₁.setTop (mkF m 3 #[.val (.ref a1)] [(.int (3 : Int32)), (.int z_a1)])) _
    refine XS.icmpYes X0.here hx rfl (pc0 := 3) (pc' := 16) rfl (hb hby d4_3) rfl (feq hc3).2 (by decide) (by decide) ?_
    show Steps p.tables e below (s₁.setTop (mkF m 16 #[.val (.ref a1)] [])) _
    refine XS.iconst X0.here hx rfl (hb hby d4_16) ?_
    show Steps p.tables e below (s₁.setTop (mkF m 17 #[.val (.ref a1)] [(.int (0 : Int32))])) _
    exact retN X0 hx (t := .boolean) Bd.returns (by simp) (hb hby d4_17) hr
  · show QV (some (.int (0 : Int32))) h0 n0 _ s₁.heap _
    rw [e0]
    exact ⟨rfl, N0, rfl⟩
set_option maxRecDepth 65536 in
set_option maxHeartbeats 40000000 in
theorem rm4_ft (l : Launch) (Z : State) (a0 : Array Value) (hw : ∀ d ∈ tables_1, d.before a0 Z = true) (ws : List Jvm.Cond) (a1 : Addr) (cl_a1 : Cell) (z_a1 : Int32) (w2 : Int32) (h0 : Heap) (n0 : Nat) (Z0 : n0 ≤ h0.size) (Ar_a1 : Arr Z h0 a1 cl_a1 .int) (S_a1 : cl_a1.slots.size = z_a1.toNatClampNeg) (N_a1 : ¬ z_a1 < 0) (hin8 : ¬ ((1 : Int32) < 0 ∨ cl_a1.slots.size ≤ ((1 : Int32)).toNatClampNeg)) (hat8 : cl_a1.slots[((1 : Int32)).toNatClampNeg]? = some (.int w2)) (hc3 : z_a1 = (3 : Int32)) (hc9 : w2 < (0 : Int32)) :
    MetFree l (⟨"com/example/restless_reasoner/restlessreasoner/engine/tableau/Premises", "isLink", "([I)Z"⟩ : MethodName) (head1 (Jvm.Cond.code (⟨"com/example/restless_reasoner/restlessreasoner/engine/tableau/Premises", "isLink", "([I)Z"⟩ : MethodName) prog_45_method_3_code 1 (some .boolean) :: ws) ({ frames := 0, cells := 0, slots := 0, locals := 0 } : Room)) (fun a U => a = #[(.ref a1)] ∧ Z.Warmed39 U.vm ∧ U.heap = h0) (fun _ _ _ _ _ => True) (fun _ U o U' => ∃ v L, o = .returned v ∧ QV (some (.int (0 : Int32))) h0 n0 v U'.heap L ∧ FrameEnd U o U' L ({ frames := 0, cells := 0, slots := 0, locals := 0 } : Room).cells ({ frames := 0, cells := 0, slots := 0, locals := 0 } : Room).slots) := by
  refine MetFree.of_bodySF (plainFor_of_name pn_4) hisR ?_
  intro p e s m args below meth c s₁ Bd hml0 hP hK
  obtain ⟨rfl, hZ, hh⟩ := hP
  have hx := Bd.exec
  have hby := Bd.bytes
  have hml : c.maxLocals = 1 := hml0
  have hown : s.vm.findClass "com/example/restless_reasoner/restlessreasoner/engine/tableau/Premises" = some m.cls := findClass_of_methodNamed Bd.named
  have hnm := (name_of_methodNamed Bd.named Bd.method).1
  have X0 : Stand p l e ({ frames := 0, cells := 0, slots := 0, locals := 0 } : Room) s m #[(.ref a1)] below meth c s₁ [] 0 0 := Stand.of_body Bd
  have e0 : s₁.heap = h0 := by rw [← hh, Bd.state]; rfl
  have N0 := Fr.nil n0
  have pre0 : ∀ t, Steps p.tables e below (s₁.setTop (mkF m 0 #[.val (.ref a1)] [])) t → Steps p.tables e below (s₁.setTop (entryFrame m #[(.ref a1)] 1)) t := fun t k => castTop (ef_4 m a1) k

  obtain ⟨fs, hr, hrun, hended, hW, hsame⟩ := X0.leave (v := some (.int (0 : Int32))) (fun h => by rw [Bd.returns] at h; cases h)
  refine ⟨_, _, pre0 _ ?_, hrun, hended, _, _, rfl, ?_, ⟨_, rfl⟩, hW, hsame.mono (by decide) (by decide)⟩
  · show Steps p.tables e below (s₁.setTop (mkF m 0 #[.val (.ref a1)] [])) _
    refine XS.aloadN X0.here hx rfl (hb hby d4_0) rfl rfl ?_
    show Steps p.tables e below (s₁.setTop (mkF m 1 #[.val (.ref a1)] [(.ref a1)])) _
    refine X0.arraylength hx (by rw [e0]; exact Ar_a1.1) (State.isArrayOf_alike hZ.alike Ar_a1.2.1) (g := (mkF m 1 #[.val (.ref a1)] [(.ref a1)])) rfl rfl (hb hby d4_1) _ ?_
    rw [len_of S_a1 N_a1]
    show Steps p.tables e below (s₁.setTop (mkF m 2 #[.val (.ref a1)] [(.int z_a1)])) _
    refine XS.iconst X0.here hx rfl (hb hby d4_2) ?_
    show Steps p.tables e below (s₁.setTop (mkF m 3 #[.val (.ref a1)] [(.int (3 : Int32)), (.int z_a1)])) _
    refine XS.icmpNo X0.here hx rfl (hb hby d4_3) rfl (teq hc3).2 ?_
    show Steps p.tables e below (s₁.setTop (mkF m 6 #[.val (.ref a1)] [])) _
    refine XS.aloadN X0.here hx rfl (hb hby d4_6) rfl rfl ?_
    show Steps p.tables e below (s₁.setTop (mkF m 7 #[.val (.ref a1)] [(.ref a1)])) _
    refine XS.iconst X0.here hx rfl (hb hby d4_7) ?_
    show Steps p.tables e below (s₁.setTop (mkF m 8 #[.val (.ref a1)] [(.int (1 : Int32)), (.ref a1)])) _
    refine X0.iaload hx (j := (1 : Int32)) (v := (.int w2)) (by rw [e0]; exact Ar_a1.1) (State.isArrayOf_alike hZ.alike Ar_a1.2.1) Ar_a1.2.2 hin8 hat8 (g := (mkF m 8 #[.val (.ref a1)] [(.int (1 : Int32)), (.ref a1)])) rfl rfl (hb hby d4_8) _ ?_
    show Steps p.tables e below (s₁.setTop (mkF m 9 #[.val (.ref a1)] [(.int w2)])) _
    refine XS.ifYes X0.here hx rfl (pc0 := 9) (pc' := 16) rfl (hb hby d4_9) rfl ((if0 _ _).trans (tlt hc9).1) (by decide) (by decide) ?_
    show Steps p.tables e below (s₁.setTop (mkF m 16 #[.val (.ref a1)] [])) _
    refine XS.iconst X0.here hx rfl (hb hby d4_16) ?_
    show Steps p.tables e below (s₁.setTop (mkF m 17 #[.val (.ref a1)] [(.int (0 : Int32))])) _
    exact retN X0 hx (t := .boolean) Bd.returns (by simp) (hb hby d4_17) hr
  · show QV (some (.int (0 : Int32))) h0 n0 _ s₁.heap _
    rw [e0]
    exact ⟨rfl, N0, rfl⟩
set_option maxRecDepth 65536 in
set_option maxHeartbeats 40000000 in
theorem rm4_ff (l : Launch) (Z : State) (a0 : Array Value) (hw : ∀ d ∈ tables_1, d.before a0 Z = true) (ws : List Jvm.Cond) (a1 : Addr) (cl_a1 : Cell) (z_a1 : Int32) (w2 : Int32) (h0 : Heap) (n0 : Nat) (Z0 : n0 ≤ h0.size) (Ar_a1 : Arr Z h0 a1 cl_a1 .int) (S_a1 : cl_a1.slots.size = z_a1.toNatClampNeg) (N_a1 : ¬ z_a1 < 0) (hin8 : ¬ ((1 : Int32) < 0 ∨ cl_a1.slots.size ≤ ((1 : Int32)).toNatClampNeg)) (hat8 : cl_a1.slots[((1 : Int32)).toNatClampNeg]? = some (.int w2)) (hc3 : z_a1 = (3 : Int32)) (hc9 : ¬ (w2 < (0 : Int32))) :
    MetFree l (⟨"com/example/restless_reasoner/restlessreasoner/engine/tableau/Premises", "isLink", "([I)Z"⟩ : MethodName) (head1 (Jvm.Cond.code (⟨"com/example/restless_reasoner/restlessreasoner/engine/tableau/Premises", "isLink", "([I)Z"⟩ : MethodName) prog_45_method_3_code 1 (some .boolean) :: ws) ({ frames := 0, cells := 0, slots := 0, locals := 0 } : Room)) (fun a U => a = #[(.ref a1)] ∧ Z.Warmed39 U.vm ∧ U.heap = h0) (fun _ _ _ _ _ => True) (fun _ U o U' => ∃ v L, o = .returned v ∧ QV (some (.int (1 : Int32))) h0 n0 v U'.heap L ∧ FrameEnd U o U' L ({ frames := 0, cells := 0, slots := 0, locals := 0 } : Room).cells ({ frames := 0, cells := 0, slots := 0, locals := 0 } : Room).slots) := by
  refine MetFree.of_bodySF (plainFor_of_name pn_4) hisR ?_
  intro p e s m args below meth c s₁ Bd hml0 hP hK
  obtain ⟨rfl, hZ, hh⟩ := hP
  have hx := Bd.exec
  have hby := Bd.bytes
  have hml : c.maxLocals = 1 := hml0
  have hown : s.vm.findClass "com/example/restless_reasoner/restlessreasoner/engine/tableau/Premises" = some m.cls := findClass_of_methodNamed Bd.named
  have hnm := (name_of_methodNamed Bd.named Bd.method).1
  have X0 : Stand p l e ({ frames := 0, cells := 0, slots := 0, locals := 0 } : Room) s m #[(.ref a1)] below meth c s₁ [] 0 0 := Stand.of_body Bd
  have e0 : s₁.heap = h0 := by rw [← hh, Bd.state]; rfl
  have N0 := Fr.nil n0
  have pre0 : ∀ t, Steps p.tables e below (s₁.setTop (mkF m 0 #[.val (.ref a1)] [])) t → Steps p.tables e below (s₁.setTop (entryFrame m #[(.ref a1)] 1)) t := fun t k => castTop (ef_4 m a1) k

  obtain ⟨fs, hr, hrun, hended, hW, hsame⟩ := X0.leave (v := some (.int (1 : Int32))) (fun h => by rw [Bd.returns] at h; cases h)
  refine ⟨_, _, pre0 _ ?_, hrun, hended, _, _, rfl, ?_, ⟨_, rfl⟩, hW, hsame.mono (by decide) (by decide)⟩
  · show Steps p.tables e below (s₁.setTop (mkF m 0 #[.val (.ref a1)] [])) _
    refine XS.aloadN X0.here hx rfl (hb hby d4_0) rfl rfl ?_
    show Steps p.tables e below (s₁.setTop (mkF m 1 #[.val (.ref a1)] [(.ref a1)])) _
    refine X0.arraylength hx (by rw [e0]; exact Ar_a1.1) (State.isArrayOf_alike hZ.alike Ar_a1.2.1) (g := (mkF m 1 #[.val (.ref a1)] [(.ref a1)])) rfl rfl (hb hby d4_1) _ ?_
    rw [len_of S_a1 N_a1]
    show Steps p.tables e below (s₁.setTop (mkF m 2 #[.val (.ref a1)] [(.int z_a1)])) _
    refine XS.iconst X0.here hx rfl (hb hby d4_2) ?_
    show Steps p.tables e below (s₁.setTop (mkF m 3 #[.val (.ref a1)] [(.int (3 : Int32)), (.int z_a1)])) _
    refine XS.icmpNo X0.here hx rfl (hb hby d4_3) rfl (teq hc3).2 ?_
    show Steps p.tables e below (s₁.setTop (mkF m 6 #[.val (.ref a1)] [])) _
    refine XS.aloadN X0.here hx rfl (hb hby d4_6) rfl rfl ?_
    show Steps p.tables e below (s₁.setTop (mkF m 7 #[.val (.ref a1)] [(.ref a1)])) _
    refine XS.iconst X0.here hx rfl (hb hby d4_7) ?_
    show Steps p.tables e below (s₁.setTop (mkF m 8 #[.val (.ref a1)] [(.int (1 : Int32)), (.ref a1)])) _
    refine X0.iaload hx (j := (1 : Int32)) (v := (.int w2)) (by rw [e0]; exact Ar_a1.1) (State.isArrayOf_alike hZ.alike Ar_a1.2.1) Ar_a1.2.2 hin8 hat8 (g := (mkF m 8 #[.val (.ref a1)] [(.int (1 : Int32)), (.ref a1)])) rfl rfl (hb hby d4_8) _ ?_
    show Steps p.tables e below (s₁.setTop (mkF m 9 #[.val (.ref a1)] [(.int w2)])) _
    refine XS.ifNo X0.here hx rfl (hb hby d4_9) rfl ((if0 _ _).trans (flt hc9).1) ?_
    show Steps p.tables e below (s₁.setTop (mkF m 12 #[.val (.ref a1)] [])) _
    refine XS.iconst X0.here hx rfl (hb hby d4_12) ?_
    show Steps p.tables e below (s₁.setTop (mkF m 13 #[.val (.ref a1)] [(.int (1 : Int32))])) _
    refine XS.goto X0.here hx rfl (pc0 := 13) (pc' := 17) rfl (hb hby d4_13) (by decide) (by decide) ?_
    show Steps p.tables e below (s₁.setTop (mkF m 17 #[.val (.ref a1)] [(.int (1 : Int32))])) _
    exact retN X0 hx (t := .boolean) Bd.returns (by simp) (hb hby d4_17) hr
  · show QV (some (.int (1 : Int32))) h0 n0 _ s₁.heap _
    rw [e0]
    exact ⟨rfl, N0, rfl⟩
theorem rm4 (l : Launch) (Z : State) (a0 : Array Value) (hw : ∀ d ∈ tables_1, d.before a0 Z = true) (ws : List Jvm.Cond) (a1 : Addr) (k : ClassId) (z : Int32) (vs : List Value) (w : Int32) (h0 : Heap) (n0 : Nat) (Z0 : n0 ≤ h0.size) (V : Arv Z h0 a1 k .int z vs (.int (0 : Int32))) (hv : (1 : Int32) < z → vs.getD 1 (.int (0 : Int32)) = .int w) :
    MetFree l (⟨"com/example/restless_reasoner/restlessreasoner/engine/tableau/Premises", "isLink", "([I)Z"⟩ : MethodName) (head1 (Jvm.Cond.code (⟨"com/example/restless_reasoner/restlessreasoner/engine/tableau/Premises", "isLink", "([I)Z"⟩ : MethodName) prog_45_method_3_code 1 (some .boolean) :: ws) ({ frames := 0, cells := 0, slots := 0, locals := 0 } : Room)) (fun a U => a = #[(.ref a1)] ∧ Z.Warmed39 U.vm ∧ U.heap = h0) (fun _ _ _ _ _ => True) (fun _ U o U' => ∃ v L, o = .returned v ∧ QV (some (.int (own_link z w))) h0 n0 v U'.heap L ∧ FrameEnd U o U' L ({ frames := 0, cells := 0, slots := 0, locals := 0 } : Room).cells ({ frames := 0, cells := 0, slots := 0, locals := 0 } : Room).slots) := by
  obtain ⟨cl, Ar, -, S, N, H, -⟩ := V
  by_cases hc3 : z = (3 : Int32)
  · obtain ⟨hin, hat⟩ := own_hat S H (by rw [hc3]; decide) (hv (by rw [hc3]; decide))
    by_cases hc9 : w < (0 : Int32)
    · have he : own_link z w = (0 : Int32) := by unfold own_link; rw [if_pos hc3, if_pos hc9]
      rw [he]; exact rm4_ft l Z a0 hw ws a1 cl z w h0 n0 Z0 Ar S N hin hat hc3 hc9
    · have he : own_link z w = (1 : Int32) := by unfold own_link; rw [if_pos hc3, if_neg hc9]
      rw [he]; exact rm4_ff l Z a0 hw ws a1 cl z w h0 n0 Z0 Ar S N hin hat hc3 hc9
  · have he : own_link z w = (0 : Int32) := by unfold own_link; rw [if_neg hc3]
    rw [he]; exact rm4_t l Z a0 hw ws a1 cl z h0 n0 Z0 Ar S N hc3
theorem d5_0 : decode prog_45_method_2_code 0 = .ok (.aload_n 0, 1) := by decide +kernel
theorem d5_1 : decode prog_45_method_2_code 1 = .ok (.arraylength, 1) := by decide +kernel
theorem d5_2 : decode prog_45_method_2_code 2 = .ok (.iconst 2, 1) := by decide +kernel
theorem d5_3 : decode prog_45_method_2_code 3 = .ok (.if_icmp .ne 7, 3) := by decide +kernel
theorem d5_10 : decode prog_45_method_2_code 10 = .ok (.iconst 0, 1) := by decide +kernel
theorem d5_11 : decode prog_45_method_2_code 11 = .ok (.ireturn, 1) := by decide +kernel
theorem pn_5 : plainName "com/example/restless_reasoner/restlessreasoner/engine/tableau/Premises" = true := by first | (simp [plainName, overriddenIn]; done) | decide +kernel
theorem ef_5 (m : MethodId) (x0 : Addr) : entryFrame m #[(.ref x0)] 1 = mkF m 0 #[.val (.ref x0)] [] := by first | (simp [entryFrame, mkF, argsToLocals, Value.category]; done) | rfl
theorem d5_6 : decode prog_45_method_2_code 6 = .ok (.iconst 1, 1) := by decide +kernel
theorem d5_7 : decode prog_45_method_2_code 7 = .ok (.goto 4, 3) := by decide +kernel
set_option maxRecDepth 65536 in
set_option maxHeartbeats 40000000 in
theorem rm5_t (l : Launch) (Z : State) (a0 : Array Value) (hw : ∀ d ∈ tables_1, d.before a0 Z = true) (ws : List Jvm.Cond) (a1 : Addr) (cl_a1 : Cell) (z_a1 : Int32) (h0 : Heap) (n0 : Nat) (Z0 : n0 ≤ h0.size) (Ar_a1 : Arr Z h0 a1 cl_a1 .int) (S_a1 : cl_a1.slots.size = z_a1.toNatClampNeg) (N_a1 : ¬ z_a1 < 0) (hc3 : ¬ (z_a1 = (2 : Int32))) :
    MetFree l (⟨"com/example/restless_reasoner/restlessreasoner/engine/tableau/Premises", "isMembership", "([I)Z"⟩ : MethodName) (head1 (Jvm.Cond.code (⟨"com/example/restless_reasoner/restlessreasoner/engine/tableau/Premises", "isMembership", "([I)Z"⟩ : MethodName) prog_45_method_2_code 1 (some .boolean) :: ws) ({ frames := 0, cells := 0, slots := 0, locals := 0 } : Room)) (fun a U => a = #[(.ref a1)] ∧ Z.Warmed39 U.vm ∧ U.heap = h0) (fun _ _ _ _ _ => True) (fun _ U o U' => ∃ v L, o = .returned v ∧ QV (some (.int (0 : Int32))) h0 n0 v U'.heap L ∧ FrameEnd U o U' L ({ frames := 0, cells := 0, slots := 0, locals := 0 } : Room).cells ({ frames := 0, cells := 0, slots := 0, locals := 0 } : Room).slots) := by
  refine MetFree.of_bodySF (plainFor_of_name pn_5) hisR ?_
  intro p e s m args below meth c s₁ Bd hml0 hP hK
  obtain ⟨rfl, hZ, hh⟩ := hP
  have hx := Bd.exec
  have hby := Bd.bytes
  have hml : c.maxLocals = 1 := hml0
  have hown : s.vm.findClass "com/example/restless_reasoner/restlessreasoner/engine/tableau/Premises" = some m.cls := findClass_of_methodNamed Bd.named
  have hnm := (name_of_methodNamed Bd.named Bd.method).1
  have X0 : Stand p l e ({ frames := 0, cells := 0, slots := 0, locals := 0 } : Room) s m #[(.ref a1)] below meth c s₁ [] 0 0 := Stand.of_body Bd
  have e0 : s₁.heap = h0 := by rw [← hh, Bd.state]; rfl
  have N0 := Fr.nil n0
  have pre0 : ∀ t, Steps p.tables e below (s₁.setTop (mkF m 0 #[.val (.ref a1)] [])) t → Steps p.tables e below (s₁.setTop (entryFrame m #[(.ref a1)] 1)) t := fun t k => castTop (ef_5 m a1) k

  obtain ⟨fs, hr, hrun, hended, hW, hsame⟩ := X0.leave (v := some (.int (0 : Int32))) (fun h => by rw [Bd.returns] at h; cases h)
  refine ⟨_, _, pre0 _ ?_, hrun, hended, _, _, rfl, ?_, ⟨_, rfl⟩, hW, hsame.mono (by decide) (by decide)⟩
  · show Steps p.tables e below (s₁.setTop (mkF m 0 #[.val (.ref a1)] [])) _
    refine XS.aloadN X0.here hx rfl (hb hby d5_0) rfl rfl ?_
    show Steps p.tables e below (s₁.setTop (mkF m 1 #[.val (.ref a1)] [(.ref a1)])) _
    refine X0.arraylength hx (by rw [e0]; exact Ar_a1.1) (State.isArrayOf_alike hZ.alike Ar_a1.2.1) (g := (mkF m 1 #[.val (.ref a1)] [(.ref a1)])) rfl rfl (hb hby d5_1) _ ?_
    rw [len_of S_a1 N_a1]
    show Steps p.tables e below (s₁.setTop (mkF m 2 #[.val (.ref a1)] [(.int z_a1)])) _
    refine XS.iconst X0.here hx rfl (hb hby d5_2) ?_
    show Steps p.tables e below (s₁.setTop (mkF m 3 #[.val (.ref a1)] [(.int (2 : Int32)), (.int z_a1)])) _
    refine XS.icmpYes X0.here hx rfl (pc0 := 3) (pc' := 10) rfl (hb hby d5_3) rfl (feq hc3).2 (by decide) (by decide) ?_
    show Steps p.tables e below (s₁.setTop (mkF m 10 #[.val (.ref a1)] [])) _
    refine XS.iconst X0.here hx rfl (hb hby d5_10) ?_
    show Steps p.tables e below (s₁.setTop (mkF m 11 #[.val (.ref a1)] [(.int (0 : Int32))])) _
    exact retN X0 hx (t := .boolean) Bd.returns (by simp) (hb hby d5_11) hr
  · show QV (some (.int (0 : Int32))) h0 n0 _ s₁.heap _
    rw [e0]
    exact ⟨rfl, N0, rfl⟩
set_option maxRecDepth 65536 in
set_option maxHeartbeats 40000000 in
theorem rm5_f (l : Launch) (Z : State) (a0 : Array Value) (hw : ∀ d ∈ tables_1, d.before a0 Z = true) (ws : List Jvm.Cond) (a1 : Addr) (cl_a1 : Cell) (z_a1 : Int32) (h0 : Heap) (n0 : Nat) (Z0 : n0 ≤ h0.size) (Ar_a1 : Arr Z h0 a1 cl_a1 .int) (S_a1 : cl_a1.slots.size = z_a1.toNatClampNeg) (N_a1 : ¬ z_a1 < 0) (hc3 : z_a1 = (2 : Int32)) :
    MetFree l (⟨"com/example/restless_reasoner/restlessreasoner/engine/tableau/Premises", "isMembership", "([I)Z"⟩ : MethodName) (head1 (Jvm.Cond.code (⟨"com/example/restless_reasoner/restlessreasoner/engine/tableau/Premises", "isMembership", "([I)Z"⟩ : MethodName) prog_45_method_2_code 1 (some .boolean) :: ws) ({ frames := 0, cells := 0, slots := 0, locals := 0 } : Room)) (fun a U => a = #[(.ref a1)] ∧ Z.Warmed39 U.vm ∧ U.heap = h0) (fun _ _ _ _ _ => True) (fun _ U o U' => ∃ v L, o = .returned v ∧ QV (some (.int (1 : Int32))) h0 n0 v U'.heap L ∧ FrameEnd U o U' L ({ frames := 0, cells := 0, slots := 0, locals := 0 } : Room).cells ({ frames := 0, cells := 0, slots := 0, locals := 0 } : Room).slots) := by
  refine MetFree.of_bodySF (plainFor_of_name pn_5) hisR ?_
  intro p e s m args below meth c s₁ Bd hml0 hP hK
  obtain ⟨rfl, hZ, hh⟩ := hP
  have hx := Bd.exec
  have hby := Bd.bytes
  have hml : c.maxLocals = 1 := hml0
  have hown : s.vm.findClass "com/example/restless_reasoner/restlessreasoner/engine/tableau/Premises" = some m.cls := findClass_of_methodNamed Bd.named
  have hnm := (name_of_methodNamed Bd.named Bd.method).1
  have X0 : Stand p l e ({ frames := 0, cells := 0, slots := 0, locals := 0 } : Room) s m #[(.ref a1)] below meth c s₁ [] 0 0 := Stand.of_body Bd
  have e0 : s₁.heap = h0 := by rw [← hh, Bd.state]; rfl
  have N0 := Fr.nil n0
  have pre0 : ∀ t, Steps p.tables e below (s₁.setTop (mkF m 0 #[.val (.ref a1)] [])) t → Steps p.tables e below (s₁.setTop (entryFrame m #[(.ref a1)] 1)) t := fun t k => castTop (ef_5 m a1) k

  obtain ⟨fs, hr, hrun, hended, hW, hsame⟩ := X0.leave (v := some (.int (1 : Int32))) (fun h => by rw [Bd.returns] at h; cases h)
  refine ⟨_, _, pre0 _ ?_, hrun, hended, _, _, rfl, ?_, ⟨_, rfl⟩, hW, hsame.mono (by decide) (by decide)⟩
  · show Steps p.tables e below (s₁.setTop (mkF m 0 #[.val (.ref a1)] [])) _
    refine XS.aloadN X0.here hx rfl (hb hby d5_0) rfl rfl ?_
    show Steps p.tables e below (s₁.setTop (mkF m 1 #[.val (.ref a1)] [(.ref a1)])) _
    refine X0.arraylength hx (by rw [e0]; exact Ar_a1.1) (State.isArrayOf_alike hZ.alike Ar_a1.2.1) (g := (mkF m 1 #[.val (.ref a1)] [(.ref a1)])) rfl rfl (hb hby d5_1) _ ?_
    rw [len_of S_a1 N_a1]
    show Steps p.tables e below (s₁.setTop (mkF m 2 #[.val (.ref a1)] [(.int z_a1)])) _
    refine XS.iconst X0.here hx rfl (hb hby d5_2) ?_
    show Steps p.tables e below (s₁.setTop (mkF m 3 #[.val (.ref a1)] [(.int (2 : Int32)), (.int z_a1)])) _
    refine XS.icmpNo X0.here hx rfl (hb hby d5_3) rfl (teq hc3).2 ?_
    show Steps p.tables e below (s₁.setTop (mkF m 6 #[.val (.ref a1)] [])) _
    refine XS.iconst X0.here hx rfl (hb hby d5_6) ?_
    show Steps p.tables e below (s₁.setTop (mkF m 7 #[.val (.ref a1)] [(.int (1 : Int32))])) _
    refine XS.goto X0.here hx rfl (pc0 := 7) (pc' := 11) rfl (hb hby d5_7) (by decide) (by decide) ?_
    show Steps p.tables e below (s₁.setTop (mkF m 11 #[.val (.ref a1)] [(.int (1 : Int32))])) _
    exact retN X0 hx (t := .boolean) Bd.returns (by simp) (hb hby d5_11) hr
  · show QV (some (.int (1 : Int32))) h0 n0 _ s₁.heap _
    rw [e0]
    exact ⟨rfl, N0, rfl⟩
theorem rm5 (l : Launch) (Z : State) (a0 : Array Value) (hw : ∀ d ∈ tables_1, d.before a0 Z = true) (ws : List Jvm.Cond) (a1 : Addr) (k : ClassId) (z : Int32) (vs : List Value) (w : Int32) (h0 : Heap) (n0 : Nat) (Z0 : n0 ≤ h0.size) (V : Arv Z h0 a1 k .int z vs (.int (0 : Int32))) (hv : (1 : Int32) < z → vs.getD 1 (.int (0 : Int32)) = .int w) :
    MetFree l (⟨"com/example/restless_reasoner/restlessreasoner/engine/tableau/Premises", "isMembership", "([I)Z"⟩ : MethodName) (head1 (Jvm.Cond.code (⟨"com/example/restless_reasoner/restlessreasoner/engine/tableau/Premises", "isMembership", "([I)Z"⟩ : MethodName) prog_45_method_2_code 1 (some .boolean) :: ws) ({ frames := 0, cells := 0, slots := 0, locals := 0 } : Room)) (fun a U => a = #[(.ref a1)] ∧ Z.Warmed39 U.vm ∧ U.heap = h0) (fun _ _ _ _ _ => True) (fun _ U o U' => ∃ v L, o = .returned v ∧ QV (some (.int (own_memb z w))) h0 n0 v U'.heap L ∧ FrameEnd U o U' L ({ frames := 0, cells := 0, slots := 0, locals := 0 } : Room).cells ({ frames := 0, cells := 0, slots := 0, locals := 0 } : Room).slots) := by
  obtain ⟨cl, Ar, -, S, N, H, -⟩ := V
  by_cases hc3 : z = (2 : Int32)
  · have he : own_memb z w = (1 : Int32) := by unfold own_memb; rw [if_pos hc3]
    rw [he]; exact rm5_f l Z a0 hw ws a1 cl z h0 n0 Z0 Ar S N hc3
  · have he : own_memb z w = (0 : Int32) := by unfold own_memb; rw [if_neg hc3]
    rw [he]; exact rm5_t l Z a0 hw ws a1 cl z h0 n0 Z0 Ar S N hc3
theorem d2_0 : decode prog_45_method_6_code 0 = .ok (.aload_n 1, 1) := by decide +kernel
theorem d2_1 : decode prog_45_method_6_code 1 = .ok (.arraylength, 1) := by decide +kernel
theorem d2_2 : decode prog_45_method_6_code 2 = .ok (.iconst 1, 1) := by decide +kernel
theorem d2_3 : decode prog_45_method_6_code 3 = .ok (.iadd, 1) := by decide +kernel
theorem d2_4 : decode prog_45_method_6_code 4 = .ok (.newarray .int, 2) := by decide +kernel
theorem d2_6 : decode prog_45_method_6_code 6 = .ok (.astore_n 2, 1) := by decide +kernel
theorem d2_7 : decode prog_45_method_6_code 7 = .ok (.aload_n 2, 1) := by decide +kernel
theorem d2_8 : decode prog_45_method_6_code 8 = .ok (.iconst 0, 1) := by decide +kernel
theorem d2_9 : decode prog_45_method_6_code 9 = .ok (.aload_n 1, 1) := by decide +kernel
theorem d2_10 : decode prog_45_method_6_code 10 = .ok (.iconst 0, 1) := by decide +kernel
theorem d2_11 : decode prog_45_method_6_code 11 = .ok (.iaload, 1) := by decide +kernel
theorem d2_12 : decode prog_45_method_6_code 12 = .ok (.iastore, 1) := by decide +kernel
theorem d2_13 : decode prog_45_method_6_code 13 = .ok (.aload_n 2, 1) := by decide +kernel
theorem d2_14 : decode prog_45_method_6_code 14 = .ok (.iconst 1, 1) := by decide +kernel
theorem d2_15 : decode prog_45_method_6_code 15 = .ok (.iload_n 0, 1) := by decide +kernel
theorem d2_16 : decode prog_45_method_6_code 16 = .ok (.iastore, 1) := by decide +kernel
theorem d2_17 : decode prog_45_method_6_code 17 = .ok (.aload_n 1, 1) := by decide +kernel
theorem d2_18 : decode prog_45_method_6_code 18 = .ok (.iconst 1, 1) := by decide +kernel
theorem d2_19 : decode prog_45_method_6_code 19 = .ok (.aload_n 2, 1) := by decide +kernel
theorem d2_20 : decode prog_45_method_6_code 20 = .ok (.iconst 2, 1) := by decide +kernel
theorem d2_21 : decode prog_45_method_6_code 21 = .ok (.aload_n 1, 1) := by decide +kernel
theorem d2_22 : decode prog_45_method_6_code 22 = .ok (.arraylength, 1) := by decide +kernel
theorem d2_23 : decode prog_45_method_6_code 23 = .ok (.iconst 1, 1) := by decide +kernel
theorem d2_24 : decode prog_45_method_6_code 24 = .ok (.isub, 1) := by decide +kernel
theorem d2_25 : decode prog_45_method_6_code 25 = .ok (.invokestatic 42, 3) := by decide +kernel
theorem d2_28 : decode prog_45_method_6_code 28 = .ok (.aload_n 2, 1) := by decide +kernel
theorem d2_29 : decode prog_45_method_6_code 29 = .ok (.areturn, 1) := by decide +kernel
theorem pn_2 : plainName "com/example/restless_reasoner/restlessreasoner/engine/tableau/Premises" = true := by first | (simp [plainName, overriddenIn]; done) | decide +kernel
theorem ef_2 (m : MethodId) (x0 : Int32) (x1 : Addr) : entryFrame m #[(.int x0), (.ref x1)] 3 = mkF m 0 #[.val (.int x0), .val (.ref x1), .unset] [] := by first | (simp [entryFrame, mkF, argsToLocals, Value.category]; done) | rfl
set_option maxRecDepth 65536 in
set_option maxHeartbeats 40000000 in
theorem rm2_2 (l : Launch) (Z : State) (a0 : Array Value) (hw : ∀ d ∈ tables_1, d.before a0 Z = true) (ws : List Jvm.Cond) (p1 : Int32) (a2 : Addr) (k_a2 : ClassId) (x0_a2 : Int32) (x1_a2 : Int32) (x2_a2 : Int32) (h0 : Heap) (n0 : Nat) (Z0 : n0 ≤ h0.size) (V_a2 : Arv Z h0 a2 k_a2 .int (2 : Int32) [(.int x0_a2), (.int x1_a2), (.int x2_a2)] (.int (0 : Int32))) :
    MetFree l (⟨"com/example/restless_reasoner/restlessreasoner/engine/tableau/Premises", "identity", "(I[I)[I"⟩ : MethodName) (head1 (Jvm.Cond.code (⟨"com/example/restless_reasoner/restlessreasoner/engine/tableau/Premises", "identity", "(I[I)[I"⟩ : MethodName) prog_45_method_6_code 3 (some (.array .int)) :: ws) ({ frames := 1, cells := 1, slots := 4, locals := 18 } : Room)) (fun a U => a = #[(.int p1), (.ref a2)] ∧ Z.Warmed39 U.vm ∧ U.heap = h0) (fun _ _ _ _ _ => True) (fun _ U o U' => ∃ v L, o = .returned v ∧ QI Z (2 : Int32) p1 h0 n0 v U'.heap L ∧ FrameEnd U o U' L ({ frames := 1, cells := 1, slots := 4, locals := 18 } : Room).cells ({ frames := 1, cells := 1, slots := 4, locals := 18 } : Room).slots) := by
  refine MetFree.of_bodySF (plainFor_of_name pn_2) hisR ?_
  intro p e s m args below meth c s₁ Bd hml0 hP hK
  obtain ⟨rfl, hZ, hh⟩ := hP
  have hx := Bd.exec
  have hby := Bd.bytes
  have hml : c.maxLocals = 3 := hml0
  have hown : s.vm.findClass "com/example/restless_reasoner/restlessreasoner/engine/tableau/Premises" = some m.cls := findClass_of_methodNamed Bd.named
  have hnm := (name_of_methodNamed Bd.named Bd.method).1
  have X0 : Stand p l e ({ frames := 1, cells := 1, slots := 4, locals := 18 } : Room) s m #[(.int p1), (.ref a2)] below meth c s₁ [] 0 0 := Stand.of_body Bd
  have e0 : s₁.heap = h0 := by rw [← hh, Bd.state]; rfl
  have N0 := Fr.nil n0
  have pre0 : ∀ t, Steps p.tables e below (s₁.setTop (mkF m 0 #[.val (.int p1), .val (.ref a2), .unset] [])) t → Steps p.tables e below (s₁.setTop (entryFrame m #[(.int p1), (.ref a2)] 3)) t := fun t k => castTop (ef_2 m p1 a2) k
  have Vo1 := V_a2
  obtain ⟨cl1_, Ar1_, -, S1_, N1_, -, -⟩ := Vo1
  obtain ⟨T3, h3, k3, X3, e3, E3, A3, st3⟩ := newP X0 hx hZ (hw _ (List.mem_of_getElem? (i := 1) rfl)) e0 (g := (mkF m 4 #[.val (.int p1), .val (.ref a2), .unset] [(.int (3 : Int32))])) rfl (hb hby d2_4) rfl (by decide) (cap := 4) (by decide) (by decide) (by decide) (by decide)
  obtain ⟨b3, g3⟩ : ∃ z, z = h0.size := ⟨_, rfl⟩
  rw [← g3] at A3 st3
  have V_b3 : Arv Z h3 b3 k3 .int (3 : Int32) [(.int (0 : Int32)), (.int (0 : Int32)), (.int (0 : Int32))] (.int (0 : Int32)) := (Arv.new A3 (by decide)).pad (pad_rep [] (.int (0 : Int32)) 3)
  have g_b3 : n0 ≤ b3 := Nat.le_trans Z0 (Nat.le_of_eq g3.symm)
  have sz_b3 : h0.size ≤ b3 := (Nat.le_trans (Keep.refl h0 []).1 (Nat.le_of_eq g3.symm))
  have K3 : Keep h0 h3 [] := (Keep.refl h0 []).ext E3
  have Vo11 := (V_a2.ext E3)
  obtain ⟨cl11_, Ar11_, q11_, S11_, N11_, H11_, G11_⟩ := Vo11
  have hin11 : ¬ ((0 : Int32) < 0 ∨ cl11_.slots.size ≤ ((0 : Int32)).toNatClampNeg) := inb_of S11_ ⟨by decide, by decide⟩
  have hat11 : cl11_.slots[((0 : Int32)).toNatClampNeg]? = some (.int x0_a2) := H11_ _ (by rw [S11_]; decide)
  obtain ⟨cl_b3_12, Ar_b3, q_b3, S_b3, N_b3, H_b3, G_b3⟩ := V_b3
  have hin12 : ¬ ((0 : Int32) < 0 ∨ cl_b3_12.slots.size ≤ ((0 : Int32)).toNatClampNeg) := inb_of S_b3 ⟨by decide, by decide⟩
  obtain ⟨T4, h4, X4, e4, W4, st4⟩ := stI X3 hx hZ e3 Ar_b3 (j := (0 : Int32)) hin12 (g := (mkF m 12 #[.val (.int p1), .val (.ref a2), .val (.ref b3)] [(.int x0_a2), (.int (0 : Int32)), (.ref b3)])) rfl rfl (hb hby d2_12)
  have V_b3_4 := Arv.set Ar_b3 q_b3 S_b3 N_b3 H_b3 G_b3 rfl W4 0 rfl (Nat.le_of_ble_eq_true rfl)
  have K4 : Keep h0 h4 [] := K3.wr W4 (Or.inr sz_b3)
  have N4 := Fr.snoc X4 N0 g_b3
  obtain ⟨cl_b3_16, Ar_b3, q_b3, S_b3, N_b3, H_b3, G_b3⟩ := V_b3_4
  have hin16 : ¬ ((1 : Int32) < 0 ∨ cl_b3_16.slots.size ≤ ((1 : Int32)).toNatClampNeg) := inb_of S_b3 ⟨by decide, by decide⟩
  obtain ⟨T5, h5, X5, e5, W5, st5⟩ := stI X4 hx hZ e4 Ar_b3 (j := (1 : Int32)) hin16 (g := (mkF m 16 #[.val (.int p1), .val (.ref a2), .val (.ref b3)] [(.int p1), (.int (1 : Int32)), (.ref b3)])) rfl rfl (hb hby d2_16)
  have V_b3_5 := Arv.set Ar_b3 q_b3 S_b3 N_b3 H_b3 G_b3 rfl W5 1 rfl (Nat.le_of_ble_eq_true rfl)
  have K5 : Keep h0 h5 [] := K4.wr W5 (Or.inr sz_b3)
  have N5 := Fr.snoc X5 N4 g_b3
  have Vo22 := (((V_a2.ext E3).other W4 (Nat.ne_of_lt (Nat.lt_of_lt_of_le V_a2.lt (Nat.le_of_eq g3.symm)))).other W5 (Nat.ne_of_lt (Nat.lt_of_lt_of_le V_a2.lt (Nat.le_of_eq g3.symm))))
  obtain ⟨cl22_, Ar22_, -, S22_, N22_, -, -⟩ := Vo22
  obtain ⟨T6, h6, L6, X6, e6, N6, Kw6, V_b3_6, st6⟩ := cpA X5 hx hZ hown (hw _ (List.mem_of_getElem? (i := 9) rfl)) (hw _ (List.mem_of_getElem? (i := 12) rfl)) (hw _ (List.mem_of_getElem? (i := 10) rfl)) (hw _ (List.mem_of_getElem? (i := 11) rfl)) e5 (((V_a2.ext E3).other W4 (Nat.ne_of_lt (Nat.lt_of_lt_of_le V_a2.lt (Nat.le_of_eq g3.symm)))).other W5 (Nat.ne_of_lt (Nat.lt_of_lt_of_le V_a2.lt (Nat.le_of_eq g3.symm)))) V_b3_5 (Or.inl ⟨rfl, rfl⟩) (sp := (1 : Int32)) (dp := (2 : Int32)) (nn := (1 : Int32)) (by decide) (by decide) (by decide) (by decide) (by decide) rfl (Nat.le_of_ble_eq_true rfl) N5 g_b3 (g := (mkF m 25 #[.val (.int p1), .val (.ref a2), .val (.ref b3)] [(.int (1 : Int32)), (.int (2 : Int32)), (.ref b3), (.int (1 : Int32)), (.ref a2)])) rfl (by rw [hml]; rfl) rfl (hb hby d2_25) (by decide) (W := 0) (by show 2 * 0 + _ ≤ _; exact Nat.le_of_eq rfl) (by decide)
  have K6 : Keep h0 h6 [] := K5.trans Kw6 (fun x hx => by cases List.mem_singleton.mp hx; exact Or.inr sz_b3)
  obtain ⟨fs, hr, hrun, hended, hW, hsame⟩ := X6.leave (v := some (.ref b3)) (fun h => by rw [Bd.returns] at h; cases h)
  refine ⟨_, _, pre0 _ ?_, hrun, hended, _, _, rfl, ?_, ⟨_, rfl⟩, hW, hsame.mono (by decide) (by decide)⟩
  · show Steps p.tables e below (s₁.setTop (mkF m 0 #[.val (.int p1), .val (.ref a2), .unset] [])) _
    refine XS.aloadN X0.here hx rfl (hb hby d2_0) rfl rfl ?_
    show Steps p.tables e below (s₁.setTop (mkF m 1 #[.val (.int p1), .val (.ref a2), .unset] [(.ref a2)])) _
    refine X0.arraylength hx (by rw [e0]; exact Ar1_.1) (State.isArrayOf_alike hZ.alike Ar1_.2.1) (g := (mkF m 1 #[.val (.int p1), .val (.ref a2), .unset] [(.ref a2)])) rfl rfl (hb hby d2_1) _ ?_
    rw [len_of S1_ N1_]
    show Steps p.tables e below (s₁.setTop (mkF m 2 #[.val (.int p1), .val (.ref a2), .unset] [(.int (2 : Int32))])) _
    refine XS.iconst X0.here hx rfl (hb hby d2_2) ?_
    show Steps p.tables e below (s₁.setTop (mkF m 3 #[.val (.int p1), .val (.ref a2), .unset] [(.int (1 : Int32)), (.int (2 : Int32))])) _
    refine XS.iadd X0.here hx rfl (hb hby d2_3) rfl ?_
    show Steps p.tables e below (s₁.setTop (mkF m 4 #[.val (.int p1), .val (.ref a2), .unset] [(.int (3 : Int32))])) _
    refine st3 _ ?_
    show Steps p.tables e below (T3.setTop (mkF m 6 #[.val (.int p1), .val (.ref a2), .unset] [(.ref b3)])) _
    refine XS.astoreN X3.here hx rfl (hb hby d2_6) rfl rfl (l' := #[.val (.int p1), .val (.ref a2), .val (.ref b3)]) rfl ?_
    show Steps p.tables e below (T3.setTop (mkF m 7 #[.val (.int p1), .val (.ref a2), .val (.ref b3)] [])) _
    refine XS.aloadN X3.here hx rfl (hb hby d2_7) rfl rfl ?_
    show Steps p.tables e below (T3.setTop (mkF m 8 #[.val (.int p1), .val (.ref a2), .val (.ref b3)] [(.ref b3)])) _
    refine XS.iconst X3.here hx rfl (hb hby d2_8) ?_
    show Steps p.tables e below (T3.setTop (mkF m 9 #[.val (.int p1), .val (.ref a2), .val (.ref b3)] [(.int (0 : Int32)), (.ref b3)])) _
    refine XS.aloadN X3.here hx rfl (hb hby d2_9) rfl rfl ?_
    show Steps p.tables e below (T3.setTop (mkF m 10 #[.val (.int p1), .val (.ref a2), .val (.ref b3)] [(.ref a2), (.int (0 : Int32)), (.ref b3)])) _
    refine XS.iconst X3.here hx rfl (hb hby d2_10) ?_
    show Steps p.tables e below (T3.setTop (mkF m 11 #[.val (.int p1), .val (.ref a2), .val (.ref b3)] [(.int (0 : Int32)), (.ref a2), (.int (0 : Int32)), (.ref b3)])) _
    refine X3.iaload hx (j := (0 : Int32)) (v := (.int x0_a2)) (by rw [e3]; exact Ar11_.1) (State.isArrayOf_alike hZ.alike Ar11_.2.1) Ar11_.2.2 hin11 hat11 (g := (mkF m 11 #[.val (.int p1), .val (.ref a2), .val (.ref b3)] [(.int (0 : Int32)), (.ref a2), (.int (0 : Int32)), (.ref b3)])) rfl rfl (hb hby d2_11) _ ?_
    show Steps p.tables e below (T3.setTop (mkF m 12 #[.val (.int p1), .val (.ref a2), .val (.ref b3)] [(.int x0_a2), (.int (0 : Int32)), (.ref b3)])) _
    refine st4 _ ?_
    show Steps p.tables e below (T4.setTop (mkF m 13 #[.val (.int p1), .val (.ref a2), .val (.ref b3)] [])) _
    refine XS.aloadN X4.here hx rfl (hb hby d2_13) rfl rfl ?_
    show Steps p.tables e below (T4.setTop (mkF m 14 #[.val (.int p1), .val (.ref a2), .val (.ref b3)] [(.ref b3)])) _
    refine XS.iconst X4.here hx rfl (hb hby d2_14) ?_
    show Steps p.tables e below (T4.setTop (mkF m 15 #[.val (.int p1), .val (.ref a2), .val (.ref b3)] [(.int (1 : Int32)), (.ref b3)])) _
    refine XS.iloadN X4.here hx rfl (hb hby d2_15) rfl ?_
    show Steps p.tables e below (T4.setTop (mkF m 16 #[.val (.int p1), .val (.ref a2), .val (.ref b3)] [(.int p1), (.int (1 : Int32)), (.ref b3)])) _
    refine st5 _ ?_
    show Steps p.tables e below (T5.setTop (mkF m 17 #[.val (.int p1), .val (.ref a2), .val (.ref b3)] [])) _
    refine XS.aloadN X5.here hx rfl (hb hby d2_17) rfl rfl ?_
    show Steps p.tables e below (T5.setTop (mkF m 18 #[.val (.int p1), .val (.ref a2), .val (.ref b3)] [(.ref a2)])) _
    refine XS.iconst X5.here hx rfl (hb hby d2_18) ?_
    show Steps p.tables e below (T5.setTop (mkF m 19 #[.val (.int p1), .val (.ref a2), .val (.ref b3)] [(.int (1 : Int32)), (.ref a2)])) _
    refine XS.aloadN X5.here hx rfl (hb hby d2_19) rfl rfl ?_
    show Steps p.tables e below (T5.setTop (mkF m 20 #[.val (.int p1), .val (.ref a2), .val (.ref b3)] [(.ref b3), (.int (1 : Int32)), (.ref a2)])) _
    refine XS.iconst X5.here hx rfl (hb hby d2_20) ?_
    show Steps p.tables e below (T5.setTop (mkF m 21 #[.val (.int p1), .val (.ref a2), .val (.ref b3)] [(.int (2 : Int32)), (.ref b3), (.int (1 : Int32)), (.ref a2)])) _
    refine XS.aloadN X5.here hx rfl (hb hby d2_21) rfl rfl ?_
    show Steps p.tables e below (T5.setTop (mkF m 22 #[.val (.int p1), .val (.ref a2), .val (.ref b3)] [(.ref a2), (.int (2 : Int32)), (.ref b3), (.int (1 : Int32)), (.ref a2)])) _
    refine X5.arraylength hx (by rw [e5]; exact Ar22_.1) (State.isArrayOf_alike hZ.alike Ar22_.2.1) (g := (mkF m 22 #[.val (.int p1), .val (.ref a2), .val (.ref b3)] [(.ref a2), (.int (2 : Int32)), (.ref b3), (.int (1 : Int32)), (.ref a2)])) rfl rfl (hb hby d2_22) _ ?_
    rw [len_of S22_ N22_]
    show Steps p.tables e below (T5.setTop (mkF m 23 #[.val (.int p1), .val (.ref a2), .val (.ref b3)] [(.int (2 : Int32)), (.int (2 : Int32)), (.ref b3), (.int (1 : Int32)), (.ref a2)])) _
    refine XS.iconst X5.here hx rfl (hb hby d2_23) ?_
    show Steps p.tables e below (T5.setTop (mkF m 24 #[.val (.int p1), .val (.ref a2), .val (.ref b3)] [(.int (1 : Int32)), (.int (2 : Int32)), (.int (2 : Int32)), (.ref b3), (.int (1 : Int32)), (.ref a2)])) _
    refine XS.isub X5.here hx rfl (hb hby d2_24) rfl ?_
    show Steps p.tables e below (T5.setTop (mkF m 25 #[.val (.int p1), .val (.ref a2), .val (.ref b3)] [(.int (1 : Int32)), (.int (2 : Int32)), (.ref b3), (.int (1 : Int32)), (.ref a2)])) _
    refine st6 _ ?_
    show Steps p.tables e below (T6.setTop (mkF m 28 #[.val (.int p1), .val (.ref a2), .val (.ref b3)] [])) _
    refine XS.aloadN X6.here hx rfl (hb hby d2_28) rfl rfl ?_
    show Steps p.tables e below (T6.setTop (mkF m 29 #[.val (.int p1), .val (.ref a2), .val (.ref b3)] [(.ref b3)])) _
    jvm_step X6.here [X6.here.top, hx, (hb hby d2_29), X6.method', Bd.returns, Value.isRef, FieldType.isReference]
    first | (intro acts; rw [hr _ acts rfl rfl rfl]) | rw [hr _ _ rfl rfl rfl]
    exact Steps.refl _
  · show QI Z (2 : Int32) p1 h0 n0 _ T6.heap _
    rw [e6]
    exact ⟨b3, k3, _, rfl, N6, K6, g_b3, sz_b3, V_b3_6, rfl⟩
set_option maxRecDepth 65536 in
set_option maxHeartbeats 40000000 in
theorem rm2_3 (l : Launch) (Z : State) (a0 : Array Value) (hw : ∀ d ∈ tables_1, d.before a0 Z = true) (ws : List Jvm.Cond) (p1 : Int32) (a2 : Addr) (k_a2 : ClassId) (x0_a2 : Int32) (x1_a2 : Int32) (x2_a2 : Int32) (h0 : Heap) (n0 : Nat) (Z0 : n0 ≤ h0.size) (V_a2 : Arv Z h0 a2 k_a2 .int (3 : Int32) [(.int x0_a2), (.int x1_a2), (.int x2_a2)] (.int (0 : Int32))) :
    MetFree l (⟨"com/example/restless_reasoner/restlessreasoner/engine/tableau/Premises", "identity", "(I[I)[I"⟩ : MethodName) (head1 (Jvm.Cond.code (⟨"com/example/restless_reasoner/restlessreasoner/engine/tableau/Premises", "identity", "(I[I)[I"⟩ : MethodName) prog_45_method_6_code 3 (some (.array .int)) :: ws) ({ frames := 1, cells := 1, slots := 4, locals := 18 } : Room)) (fun a U => a = #[(.int p1), (.ref a2)] ∧ Z.Warmed39 U.vm ∧ U.heap = h0) (fun _ _ _ _ _ => True) (fun _ U o U' => ∃ v L, o = .returned v ∧ QI Z (3 : Int32) p1 h0 n0 v U'.heap L ∧ FrameEnd U o U' L ({ frames := 1, cells := 1, slots := 4, locals := 18 } : Room).cells ({ frames := 1, cells := 1, slots := 4, locals := 18 } : Room).slots) := by
  refine MetFree.of_bodySF (plainFor_of_name pn_2) hisR ?_
  intro p e s m args below meth c s₁ Bd hml0 hP hK
  obtain ⟨rfl, hZ, hh⟩ := hP
  have hx := Bd.exec
  have hby := Bd.bytes
  have hml : c.maxLocals = 3 := hml0
  have hown : s.vm.findClass "com/example/restless_reasoner/restlessreasoner/engine/tableau/Premises" = some m.cls := findClass_of_methodNamed Bd.named
  have hnm := (name_of_methodNamed Bd.named Bd.method).1
  have X0 : Stand p l e ({ frames := 1, cells := 1, slots := 4, locals := 18 } : Room) s m #[(.int p1), (.ref a2)] below meth c s₁ [] 0 0 := Stand.of_body Bd
  have e0 : s₁.heap = h0 := by rw [← hh, Bd.state]; rfl
  have N0 := Fr.nil n0
  have pre0 : ∀ t, Steps p.tables e below (s₁.setTop (mkF m 0 #[.val (.int p1), .val (.ref a2), .unset] [])) t → Steps p.tables e below (s₁.setTop (entryFrame m #[(.int p1), (.ref a2)] 3)) t := fun t k => castTop (ef_2 m p1 a2) k
  have Vo1 := V_a2
  obtain ⟨cl1_, Ar1_, -, S1_, N1_, -, -⟩ := Vo1
  obtain ⟨T3, h3, k3, X3, e3, E3, A3, st3⟩ := newP X0 hx hZ (hw _ (List.mem_of_getElem? (i := 1) rfl)) e0 (g := (mkF m 4 #[.val (.int p1), .val (.ref a2), .unset] [(.int (4 : Int32))])) rfl (hb hby d2_4) rfl (by decide) (cap := 4) (by decide) (by decide) (by decide) (by decide)
  obtain ⟨b3, g3⟩ : ∃ z, z = h0.size := ⟨_, rfl⟩
  rw [← g3] at A3 st3
  have V_b3 : Arv Z h3 b3 k3 .int (4 : Int32) [(.int (0 : Int32)), (.int (0 : Int32)), (.int (0 : Int32)), (.int (0 : Int32))] (.int (0 : Int32)) := (Arv.new A3 (by decide)).pad (pad_rep [] (.int (0 : Int32)) 4)
  have g_b3 : n0 ≤ b3 := Nat.le_trans Z0 (Nat.le_of_eq g3.symm)
  have sz_b3 : h0.size ≤ b3 := (Nat.le_trans (Keep.refl h0 []).1 (Nat.le_of_eq g3.symm))
  have K3 : Keep h0 h3 [] := (Keep.refl h0 []).ext E3
  have Vo11 := (V_a2.ext E3)
  obtain ⟨cl11_, Ar11_, q11_, S11_, N11_, H11_, G11_⟩ := Vo11
  have hin11 : ¬ ((0 : Int32) < 0 ∨ cl11_.slots.size ≤ ((0 : Int32)).toNatClampNeg) := inb_of S11_ ⟨by decide, by decide⟩
  have hat11 : cl11_.slots[((0 : Int32)).toNatClampNeg]? = some (.int x0_a2) := H11_ _ (by rw [S11_]; decide)
  obtain ⟨cl_b3_12, Ar_b3, q_b3, S_b3, N_b3, H_b3, G_b3⟩ := V_b3
  have hin12 : ¬ ((0 : Int32) < 0 ∨ cl_b3_12.slots.size ≤ ((0 : Int32)).toNatClampNeg) := inb_of S_b3 ⟨by decide, by decide⟩
  obtain ⟨T4, h4, X4, e4, W4, st4⟩ := stI X3 hx hZ e3 Ar_b3 (j := (0 : Int32)) hin12 (g := (mkF m 12 #[.val (.int p1), .val (.ref a2), .val (.ref b3)] [(.int x0_a2), (.int (0 : Int32)), (.ref b3)])) rfl rfl (hb hby d2_12)
  have V_b3_4 := Arv.set Ar_b3 q_b3 S_b3 N_b3 H_b3 G_b3 rfl W4 0 rfl (Nat.le_of_ble_eq_true rfl)
  have K4 : Keep h0 h4 [] := K3.wr W4 (Or.inr sz_b3)
  have N4 := Fr.snoc X4 N0 g_b3
  obtain ⟨cl_b3_16, Ar_b3, q_b3, S_b3, N_b3, H_b3, G_b3⟩ := V_b3_4
  have hin16 : ¬ ((1 : Int32) < 0 ∨ cl_b3_16.slots.size ≤ ((1 : Int32)).toNatClampNeg) := inb_of S_b3 ⟨by decide, by decide⟩
  obtain ⟨T5, h5, X5, e5, W5, st5⟩ := stI X4 hx hZ e4 Ar_b3 (j := (1 : Int32)) hin16 (g := (mkF m 16 #[.val (.int p1), .val (.ref a2), .val (.ref b3)] [(.int p1), (.int (1 : Int32)), (.ref b3)])) rfl rfl (hb hby d2_16)
  have V_b3_5 := Arv.set Ar_b3 q_b3 S_b3 N_b3 H_b3 G_b3 rfl W5 1 rfl (Nat.le_of_ble_eq_true rfl)
  have K5 : Keep h0 h5 [] := K4.wr W5 (Or.inr sz_b3)
  have N5 := Fr.snoc X5 N4 g_b3
  have Vo22 := (((V_a2.ext E3).other W4 (Nat.ne_of_lt (Nat.lt_of_lt_of_le V_a2.lt (Nat.le_of_eq g3.symm)))).other W5 (Nat.ne_of_lt (Nat.lt_of_lt_of_le V_a2.lt (Nat.le_of_eq g3.symm))))
  obtain ⟨cl22_, Ar22_, -, S22_, N22_, -, -⟩ := Vo22
  obtain ⟨T6, h6, L6, X6, e6, N6, Kw6, V_b3_6, st6⟩ := cpA X5 hx hZ hown (hw _ (List.mem_of_getElem? (i := 9) rfl)) (hw _ (List.mem_of_getElem? (i := 12) rfl)) (hw _ (List.mem_of_getElem? (i := 10) rfl)) (hw _ (List.mem_of_getElem? (i := 11) rfl)) e5 (((V_a2.ext E3).other W4 (Nat.ne_of_lt (Nat.lt_of_lt_of_le V_a2.lt (Nat.le_of_eq g3.symm)))).other W5 (Nat.ne_of_lt (Nat.lt_of_lt_of_le V_a2.lt (Nat.le_of_eq g3.symm)))) V_b3_5 (Or.inl ⟨rfl, rfl⟩) (sp := (1 : Int32)) (dp := (2 : Int32)) (nn := (2 : Int32)) (by decide) (by decide) (by decide) (by decide) (by decide) rfl (Nat.le_of_ble_eq_true rfl) N5 g_b3 (g := (mkF m 25 #[.val (.int p1), .val (.ref a2), .val (.ref b3)] [(.int (2 : Int32)), (.int (2 : Int32)), (.ref b3), (.int (1 : Int32)), (.ref a2)])) rfl (by rw [hml]; rfl) rfl (hb hby d2_25) (by decide) (W := 0) (by show 2 * 0 + _ ≤ _; exact Nat.le_of_eq rfl) (by decide)
  have K6 : Keep h0 h6 [] := K5.trans Kw6 (fun x hx => by cases List.mem_singleton.mp hx; exact Or.inr sz_b3)
  obtain ⟨fs, hr, hrun, hended, hW, hsame⟩ := X6.leave (v := some (.ref b3)) (fun h => by rw [Bd.returns] at h; cases h)
  refine ⟨_, _, pre0 _ ?_, hrun, hended, _, _, rfl, ?_, ⟨_, rfl⟩, hW, hsame.mono (by decide) (by decide)⟩
  · show Steps p.tables e below (s₁.setTop (mkF m 0 #[.val (.int p1), .val (.ref a2), .unset] [])) _
    refine XS.aloadN X0.here hx rfl (hb hby d2_0) rfl rfl ?_
    show Steps p.tables e below (s₁.setTop (mkF m 1 #[.val (.int p1), .val (.ref a2), .unset] [(.ref a2)])) _
    refine X0.arraylength hx (by rw [e0]; exact Ar1_.1) (State.isArrayOf_alike hZ.alike Ar1_.2.1) (g := (mkF m 1 #[.val (.int p1), .val (.ref a2), .unset] [(.ref a2)])) rfl rfl (hb hby d2_1) _ ?_
    rw [len_of S1_ N1_]
    show Steps p.tables e below (s₁.setTop (mkF m 2 #[.val (.int p1), .val (.ref a2), .unset] [(.int (3 : Int32))])) _
    refine XS.iconst X0.here hx rfl (hb hby d2_2) ?_
    show Steps p.tables e below (s₁.setTop (mkF m 3 #[.val (.int p1), .val (.ref a2), .unset] [(.int (1 : Int32)), (.int (3 : Int32))])) _
    refine XS.iadd X0.here hx rfl (hb hby d2_3) rfl ?_
    show Steps p.tables e below (s₁.setTop (mkF m 4 #[.val (.int p1), .val (.ref a2), .unset] [(.int (4 : Int32))])) _
    refine st3 _ ?_
    show Steps p.tables e below (T3.setTop (mkF m 6 #[.val (.int p1), .val (.ref a2), .unset] [(.ref b3)])) _
    refine XS.astoreN X3.here hx rfl (hb hby d2_6) rfl rfl (l' := #[.val (.int p1), .val (.ref a2), .val (.ref b3)]) rfl ?_
    show Steps p.tables e below (T3.setTop (mkF m 7 #[.val (.int p1), .val (.ref a2), .val (.ref b3)] [])) _
    refine XS.aloadN X3.here hx rfl (hb hby d2_7) rfl rfl ?_
    show Steps p.tables e below (T3.setTop (mkF m 8 #[.val (.int p1), .val (.ref a2), .val (.ref b3)] [(.ref b3)])) _
    refine XS.iconst X3.here hx rfl (hb hby d2_8) ?_
    show Steps p.tables e below (T3.setTop (mkF m 9 #[.val (.int p1), .val (.ref a2), .val (.ref b3)] [(.int (0 : Int32)), (.ref b3)])) _
    refine XS.aloadN X3.here hx rfl (hb hby d2_9) rfl rfl ?_
    show Steps p.tables e below (T3.setTop (mkF m 10 #[.val (.int p1), .val (.ref a2), .val (.ref b3)] [(.ref a2), (.int (0 : Int32)), (.ref b3)])) _
    refine XS.iconst X3.here hx rfl (hb hby d2_10) ?_
    show Steps p.tables e below (T3.setTop (mkF m 11 #[.val (.int p1), .val (.ref a2), .val (.ref b3)] [(.int (0 : Int32)), (.ref a2), (.int (0 : Int32)), (.ref b3)])) _
    refine X3.iaload hx (j := (0 : Int32)) (v := (.int x0_a2)) (by rw [e3]; exact Ar11_.1) (State.isArrayOf_alike hZ.alike Ar11_.2.1) Ar11_.2.2 hin11 hat11 (g := (mkF m 11 #[.val (.int p1), .val (.ref a2), .val (.ref b3)] [(.int (0 : Int32)), (.ref a2), (.int (0 : Int32)), (.ref b3)])) rfl rfl (hb hby d2_11) _ ?_
    show Steps p.tables e below (T3.setTop (mkF m 12 #[.val (.int p1), .val (.ref a2), .val (.ref b3)] [(.int x0_a2), (.int (0 : Int32)), (.ref b3)])) _
    refine st4 _ ?_
    show Steps p.tables e below (T4.setTop (mkF m 13 #[.val (.int p1), .val (.ref a2), .val (.ref b3)] [])) _
    refine XS.aloadN X4.here hx rfl (hb hby d2_13) rfl rfl ?_
    show Steps p.tables e below (T4.setTop (mkF m 14 #[.val (.int p1), .val (.ref a2), .val (.ref b3)] [(.ref b3)])) _
    refine XS.iconst X4.here hx rfl (hb hby d2_14) ?_
    show Steps p.tables e below (T4.setTop (mkF m 15 #[.val (.int p1), .val (.ref a2), .val (.ref b3)] [(.int (1 : Int32)), (.ref b3)])) _
    refine XS.iloadN X4.here hx rfl (hb hby d2_15) rfl ?_
    show Steps p.tables e below (T4.setTop (mkF m 16 #[.val (.int p1), .val (.ref a2), .val (.ref b3)] [(.int p1), (.int (1 : Int32)), (.ref b3)])) _
    refine st5 _ ?_
    show Steps p.tables e below (T5.setTop (mkF m 17 #[.val (.int p1), .val (.ref a2), .val (.ref b3)] [])) _
    refine XS.aloadN X5.here hx rfl (hb hby d2_17) rfl rfl ?_
    show Steps p.tables e below (T5.setTop (mkF m 18 #[.val (.int p1), .val (.ref a2), .val (.ref b3)] [(.ref a2)])) _
    refine XS.iconst X5.here hx rfl (hb hby d2_18) ?_
    show Steps p.tables e below (T5.setTop (mkF m 19 #[.val (.int p1), .val (.ref a2), .val (.ref b3)] [(.int (1 : Int32)), (.ref a2)])) _
    refine XS.aloadN X5.here hx rfl (hb hby d2_19) rfl rfl ?_
    show Steps p.tables e below (T5.setTop (mkF m 20 #[.val (.int p1), .val (.ref a2), .val (.ref b3)] [(.ref b3), (.int (1 : Int32)), (.ref a2)])) _
    refine XS.iconst X5.here hx rfl (hb hby d2_20) ?_
    show Steps p.tables e below (T5.setTop (mkF m 21 #[.val (.int p1), .val (.ref a2), .val (.ref b3)] [(.int (2 : Int32)), (.ref b3), (.int (1 : Int32)), (.ref a2)])) _
    refine XS.aloadN X5.here hx rfl (hb hby d2_21) rfl rfl ?_
    show Steps p.tables e below (T5.setTop (mkF m 22 #[.val (.int p1), .val (.ref a2), .val (.ref b3)] [(.ref a2), (.int (2 : Int32)), (.ref b3), (.int (1 : Int32)), (.ref a2)])) _
    refine X5.arraylength hx (by rw [e5]; exact Ar22_.1) (State.isArrayOf_alike hZ.alike Ar22_.2.1) (g := (mkF m 22 #[.val (.int p1), .val (.ref a2), .val (.ref b3)] [(.ref a2), (.int (2 : Int32)), (.ref b3), (.int (1 : Int32)), (.ref a2)])) rfl rfl (hb hby d2_22) _ ?_
    rw [len_of S22_ N22_]
    show Steps p.tables e below (T5.setTop (mkF m 23 #[.val (.int p1), .val (.ref a2), .val (.ref b3)] [(.int (3 : Int32)), (.int (2 : Int32)), (.ref b3), (.int (1 : Int32)), (.ref a2)])) _
    refine XS.iconst X5.here hx rfl (hb hby d2_23) ?_
    show Steps p.tables e below (T5.setTop (mkF m 24 #[.val (.int p1), .val (.ref a2), .val (.ref b3)] [(.int (1 : Int32)), (.int (3 : Int32)), (.int (2 : Int32)), (.ref b3), (.int (1 : Int32)), (.ref a2)])) _
    refine XS.isub X5.here hx rfl (hb hby d2_24) rfl ?_
    show Steps p.tables e below (T5.setTop (mkF m 25 #[.val (.int p1), .val (.ref a2), .val (.ref b3)] [(.int (2 : Int32)), (.int (2 : Int32)), (.ref b3), (.int (1 : Int32)), (.ref a2)])) _
    refine st6 _ ?_
    show Steps p.tables e below (T6.setTop (mkF m 28 #[.val (.int p1), .val (.ref a2), .val (.ref b3)] [])) _
    refine XS.aloadN X6.here hx rfl (hb hby d2_28) rfl rfl ?_
    show Steps p.tables e below (T6.setTop (mkF m 29 #[.val (.int p1), .val (.ref a2), .val (.ref b3)] [(.ref b3)])) _
    jvm_step X6.here [X6.here.top, hx, (hb hby d2_29), X6.method', Bd.returns, Value.isRef, FieldType.isReference]
    first | (intro acts; rw [hr _ acts rfl rfl rfl]) | rw [hr _ _ rfl rfl rfl]
    exact Steps.refl _
  · show QI Z (3 : Int32) p1 h0 n0 _ T6.heap _
    rw [e6]
    exact ⟨b3, k3, _, rfl, N6, K6, g_b3, sz_b3, V_b3_6, rfl⟩
theorem rm2 (l : Launch) (Z : State) (a0 : Array Value) (hw : ∀ d ∈ tables_1, d.before a0 Z = true) (ws : List Jvm.Cond) (p1 : Int32) (a2 : Addr) (k : ClassId) (z x0 x1 x2 : Int32) (h0 : Heap) (n0 : Nat) (Z0 : n0 ≤ h0.size) (hz : z = (2 : Int32) ∨ z = (3 : Int32)) (V : Arv Z h0 a2 k .int z [(.int x0), (.int x1), (.int x2)] (.int (0 : Int32))) :
    MetFree l (⟨"com/example/restless_reasoner/restlessreasoner/engine/tableau/Premises", "identity", "(I[I)[I"⟩ : MethodName) (head1 (Jvm.Cond.code (⟨"com/example/restless_reasoner/restlessreasoner/engine/tableau/Premises", "identity", "(I[I)[I"⟩ : MethodName) prog_45_method_6_code 3 (some (.array .int)) :: ws) ({ frames := 1, cells := 1, slots := 4, locals := 18 } : Room)) (fun a U => a = #[(.int p1), (.ref a2)] ∧ Z.Warmed39 U.vm ∧ U.heap = h0) (fun _ _ _ _ _ => True) (fun _ U o U' => ∃ v L, o = .returned v ∧ QI Z z p1 h0 n0 v U'.heap L ∧ FrameEnd U o U' L ({ frames := 1, cells := 1, slots := 4, locals := 18 } : Room).cells ({ frames := 1, cells := 1, slots := 4, locals := 18 } : Room).slots) := by
  rcases hz with rfl | rfl
  · exact rm2_2 l Z a0 hw ws p1 a2 k x0 x1 x2 h0 n0 Z0 V
  · exact rm2_3 l Z a0 hw ws p1 a2 k x0 x1 x2 h0 n0 Z0 V
theorem own_six (x : Int32) : (x &&& (2147483647 : Int32)) % (6 : Int32) = 0 ∨ (x &&& (2147483647 : Int32)) % (6 : Int32) = 1 ∨ (x &&& (2147483647 : Int32)) % (6 : Int32) = 2 ∨ (x &&& (2147483647 : Int32)) % (6 : Int32) = 3 ∨ (x &&& (2147483647 : Int32)) % (6 : Int32) = 4 ∨ (x &&& (2147483647 : Int32)) % (6 : Int32) = 5 := by
  have hm : (x &&& (2147483647 : Int32)).toInt = x.toInt % 2147483648 := c_mask x 2147483647 31 (by decide) (by decide)
  have hq := (c_irem (x &&& (2147483647 : Int32)) 6 6 (by decide)).1 (by omega)
  generalize (x &&& (2147483647 : Int32)) % (6 : Int32) = q at *
  have k0 : (0 : Int32).toInt = 0 := by decide
  have k1 : (1 : Int32).toInt = 1 := by decide
  have k2 : (2 : Int32).toInt = 2 := by decide
  have k3 : (3 : Int32).toInt = 3 := by decide
  have k4 : (4 : Int32).toInt = 4 := by decide
  have k5 : (5 : Int32).toInt = 5 := by decide
  simp only [← Int32.toInt_inj]
  omega
def own_sec (e b : Int32) : Int32 := if (e &&& (3 : Int32)) = (0 : Int32) then (-2 : Int32) else if (e &&& (3 : Int32)) = (1 : Int32) then (-3 : Int32) else b
theorem own_c0 {z w : Int32} (h : z < (3 : Int32)) : own_iseq z w = (0 : Int32) := by unfold own_iseq; rw [if_pos h]
theorem own_c1 {z w : Int32} (h : ¬ z < (3 : Int32)) (k : ¬ w = (-2 : Int32)) : own_iseq z w = (0 : Int32) := by unfold own_iseq; rw [if_neg h, if_neg k]
theorem own_c2 {z w : Int32} (h : ¬ z < (3 : Int32)) (k : w = (-2 : Int32)) : own_iseq z w = (1 : Int32) ∧ own_isne z w = (0 : Int32) ∧ own_link z w = (0 : Int32) ∧ own_memb z w = (0 : Int32) := by
  subst k
  refine ⟨?_, ?_, ?_, ?_⟩
  · unfold own_iseq; rw [if_neg h, if_pos rfl]
  · unfold own_isne; rw [if_neg h, if_neg (by decide)]
  · unfold own_link; rw [if_pos (show (-2 : Int32) < (0 : Int32) by decide)]; exact ite_self _
  · unfold own_memb; rw [if_neg (fun q => h (by rw [q]; decide))]
set_option maxRecDepth 65536 in
set_option maxHeartbeats 40000000 in
theorem sgA_f {p : Program} {l : Launch} {e : Env} {s : State} {m : MethodId} {args : Array Value} {below : List Frame} {meth : Method} {c : Code} {T0 : State} {locs : List Loc} {Z : State} {a0 : Array Value} {h0 : Heap} {n0 : Nat} (i0 : Int32) (i1 : Int32) (i2 : Int32) (i3 : Int32) (i4 : Int32) (i5 : Int32)
    (X0 : Stand p l e room_1 s m args below meth c T0 locs 0 0) (hx : p.tables.exec = Jvm.exec) (hZ : Z.Warmed39 s.vm) (hw : ∀ d ∈ tables_1, d.before a0 Z = true) (hby : c.code = code) (hml : c.maxLocals = 13) (hown : s.vm.findClass "com/example/restless_reasoner/restlessreasoner/engine/tableau/PremisesIsEqualityPinLaw" = some m.cls) (e0 : T0.heap = h0) (Z0 : n0 ≤ h0.size) (N0 : Fr n0 locs) (hnz6 : ¬ ((6 : Int32) = (0 : Int32))) (hc17 : (i5 &&& (3 : Int32)) = (0 : Int32)) :
    ∃ (T' : State) (h' : Heap) (locs' : List Loc), Stand p l e room_1 s m args below meth c T' locs' 0 0 ∧ T'.heap = h' ∧ Fr n0 locs' ∧ Keep h0 h' [] ∧
      ∀ target, Steps p.tables e below (T'.setTop (mkF m 39 #[.val (.int i0), .val (.int i1), .val (.int i2), .val (.int i3), .val (.int i4), .val (.int i5), .val (.int ((i0 &&& (2147483647 : Int32)) % (6 : Int32))), .val (.int (i5 &&& (3 : Int32))), .val (.int (-2 : Int32)), .unset, .unset, .unset, .unset] [])) target → Steps p.tables e below (T0.setTop (mkF m 0 #[.val (.int i0), .val (.int i1), .val (.int i2), .val (.int i3), .val (.int i4), .val (.int i5), .unset, .unset, .unset, .unset, .unset, .unset, .unset] [])) target := by

  refine ⟨T0, _, _, X0, e0, N0, (Keep.refl h0 []), fun target kt => ?_⟩
  show Steps p.tables e below (T0.setTop (mkF m 0 #[.val (.int i0), .val (.int i1), .val (.int i2), .val (.int i3), .val (.int i4), .val (.int i5), .unset, .unset, .unset, .unset, .unset, .unset, .unset] [])) _
  refine XS.iloadN X0.here hx rfl (hb hby at_0) rfl ?_
  show Steps p.tables e below (T0.setTop (mkF m 1 #[.val (.int i0), .val (.int i1), .val (.int i2), .val (.int i3), .val (.int i4), .val (.int i5), .unset, .unset, .unset, .unset, .unset, .unset, .unset] [(.int i0)])) _
  refine X0.ldcInt hx hown (mvT hZ (hw _ (List.mem_of_getElem? (i := 0) rfl))) (g := (mkF m 1 #[.val (.int i0), .val (.int i1), .val (.int i2), .val (.int i3), .val (.int i4), .val (.int i5), .unset, .unset, .unset, .unset, .unset, .unset, .unset] [(.int i0)])) rfl (hb hby at_1) _ ?_
  show Steps p.tables e below (T0.setTop (mkF m 3 #[.val (.int i0), .val (.int i1), .val (.int i2), .val (.int i3), .val (.int i4), .val (.int i5), .unset, .unset, .unset, .unset, .unset, .unset, .unset] [(.int (2147483647 : Int32)), (.int i0)])) _
  refine XS.iand X0.here hx rfl (hb hby at_3) rfl ?_
  show Steps p.tables e below (T0.setTop (mkF m 4 #[.val (.int i0), .val (.int i1), .val (.int i2), .val (.int i3), .val (.int i4), .val (.int i5), .unset, .unset, .unset, .unset, .unset, .unset, .unset] [(.int (i0 &&& (2147483647 : Int32)))])) _
  refine XS.bipush X0.here hx rfl (hb hby at_4) ?_
  show Steps p.tables e below (T0.setTop (mkF m 6 #[.val (.int i0), .val (.int i1), .val (.int i2), .val (.int i3), .val (.int i4), .val (.int i5), .unset, .unset, .unset, .unset, .unset, .unset, .unset] [(.int (6 : Int32)), (.int (i0 &&& (2147483647 : Int32)))])) _
  refine iremM X0 hx rfl (hb hby at_6) rfl hnz6 ?_
  show Steps p.tables e below (T0.setTop (mkF m 7 #[.val (.int i0), .val (.int i1), .val (.int i2), .val (.int i3), .val (.int i4), .val (.int i5), .unset, .unset, .unset, .unset, .unset, .unset, .unset] [(.int ((i0 &&& (2147483647 : Int32)) % (6 : Int32)))])) _
  refine XS.istore X0.here hx rfl (hb hby at_7) rfl (l' := #[.val (.int i0), .val (.int i1), .val (.int i2), .val (.int i3), .val (.int i4), .val (.int i5), .val (.int ((i0 &&& (2147483647 : Int32)) % (6 : Int32))), .unset, .unset, .unset, .unset, .unset, .unset]) rfl ?_
  show Steps p.tables e below (T0.setTop (mkF m 9 #[.val (.int i0), .val (.int i1), .val (.int i2), .val (.int i3), .val (.int i4), .val (.int i5), .val (.int ((i0 &&& (2147483647 : Int32)) % (6 : Int32))), .unset, .unset, .unset, .unset, .unset, .unset] [])) _
  refine XS.iload X0.here hx rfl (hb hby at_9) rfl ?_
  show Steps p.tables e below (T0.setTop (mkF m 11 #[.val (.int i0), .val (.int i1), .val (.int i2), .val (.int i3), .val (.int i4), .val (.int i5), .val (.int ((i0 &&& (2147483647 : Int32)) % (6 : Int32))), .unset, .unset, .unset, .unset, .unset, .unset] [(.int i5)])) _
  refine XS.iconst X0.here hx rfl (hb hby at_11) ?_
  show Steps p.tables e below (T0.setTop (mkF m 12 #[.val (.int i0), .val (.int i1), .val (.int i2), .val (.int i3), .val (.int i4), .val (.int i5), .val (.int ((i0 &&& (2147483647 : Int32)) % (6 : Int32))), .unset, .unset, .unset, .unset, .unset, .unset] [(.int (3 : Int32)), (.int i5)])) _
  refine XS.iand X0.here hx rfl (hb hby at_12) rfl ?_
  show Steps p.tables e below (T0.setTop (mkF m 13 #[.val (.int i0), .val (.int i1), .val (.int i2), .val (.int i3), .val (.int i4), .val (.int i5), .val (.int ((i0 &&& (2147483647 : Int32)) % (6 : Int32))), .unset, .unset, .unset, .unset, .unset, .unset] [(.int (i5 &&& (3 : Int32)))])) _
  refine XS.istore X0.here hx rfl (hb hby at_13) rfl (l' := #[.val (.int i0), .val (.int i1), .val (.int i2), .val (.int i3), .val (.int i4), .val (.int i5), .val (.int ((i0 &&& (2147483647 : Int32)) % (6 : Int32))), .val (.int (i5 &&& (3 : Int32))), .unset, .unset, .unset, .unset, .unset]) rfl ?_
  show Steps p.tables e below (T0.setTop (mkF m 15 #[.val (.int i0), .val (.int i1), .val (.int i2), .val (.int i3), .val (.int i4), .val (.int i5), .val (.int ((i0 &&& (2147483647 : Int32)) % (6 : Int32))), .val (.int (i5 &&& (3 : Int32))), .unset, .unset, .unset, .unset, .unset] [])) _
  refine XS.iload X0.here hx rfl (hb hby at_15) rfl ?_
  show Steps p.tables e below (T0.setTop (mkF m 17 #[.val (.int i0), .val (.int i1), .val (.int i2), .val (.int i3), .val (.int i4), .val (.int i5), .val (.int ((i0 &&& (2147483647 : Int32)) % (6 : Int32))), .val (.int (i5 &&& (3 : Int32))), .unset, .unset, .unset, .unset, .unset] [(.int (i5 &&& (3 : Int32)))])) _
  refine XS.ifNo X0.here hx rfl (hb hby at_17) rfl ((if0 _ _).trans (teq hc17).2) ?_
  show Steps p.tables e below (T0.setTop (mkF m 20 #[.val (.int i0), .val (.int i1), .val (.int i2), .val (.int i3), .val (.int i4), .val (.int i5), .val (.int ((i0 &&& (2147483647 : Int32)) % (6 : Int32))), .val (.int (i5 &&& (3 : Int32))), .unset, .unset, .unset, .unset, .unset] [])) _
  refine XS.bipush X0.here hx rfl (hb hby at_20) ?_
  show Steps p.tables e below (T0.setTop (mkF m 22 #[.val (.int i0), .val (.int i1), .val (.int i2), .val (.int i3), .val (.int i4), .val (.int i5), .val (.int ((i0 &&& (2147483647 : Int32)) % (6 : Int32))), .val (.int (i5 &&& (3 : Int32))), .unset, .unset, .unset, .unset, .unset] [(.int (-2 : Int32))])) _
  refine XS.goto X0.here hx rfl (pc0 := 22) (pc' := 37) rfl (hb hby at_22) (by decide) (by decide) ?_
  show Steps p.tables e below (T0.setTop (mkF m 37 #[.val (.int i0), .val (.int i1), .val (.int i2), .val (.int i3), .val (.int i4), .val (.int i5), .val (.int ((i0 &&& (2147483647 : Int32)) % (6 : Int32))), .val (.int (i5 &&& (3 : Int32))), .unset, .unset, .unset, .unset, .unset] [(.int (-2 : Int32))])) _
  refine XS.istore X0.here hx rfl (hb hby at_37) rfl (l' := #[.val (.int i0), .val (.int i1), .val (.int i2), .val (.int i3), .val (.int i4), .val (.int i5), .val (.int ((i0 &&& (2147483647 : Int32)) % (6 : Int32))), .val (.int (i5 &&& (3 : Int32))), .val (.int (-2 : Int32)), .unset, .unset, .unset, .unset]) rfl ?_
  exact kt
set_option maxRecDepth 65536 in
set_option maxHeartbeats 40000000 in
theorem sgA_tf {p : Program} {l : Launch} {e : Env} {s : State} {m : MethodId} {args : Array Value} {below : List Frame} {meth : Method} {c : Code} {T0 : State} {locs : List Loc} {Z : State} {a0 : Array Value} {h0 : Heap} {n0 : Nat} (i0 : Int32) (i1 : Int32) (i2 : Int32) (i3 : Int32) (i4 : Int32) (i5 : Int32)
    (X0 : Stand p l e room_1 s m args below meth c T0 locs 0 0) (hx : p.tables.exec = Jvm.exec) (hZ : Z.Warmed39 s.vm) (hw : ∀ d ∈ tables_1, d.before a0 Z = true) (hby : c.code = code) (hml : c.maxLocals = 13) (hown : s.vm.findClass "com/example/restless_reasoner/restlessreasoner/engine/tableau/PremisesIsEqualityPinLaw" = some m.cls) (e0 : T0.heap = h0) (Z0 : n0 ≤ h0.size) (N0 : Fr n0 locs) (hnz6 : ¬ ((6 : Int32) = (0 : Int32))) (hc17 : ¬ ((i5 &&& (3 : Int32)) = (0 : Int32))) (hc28 : (i5 &&& (3 : Int32)) = (1 : Int32)) :
    ∃ (T' : State) (h' : Heap) (locs' : List Loc), Stand p l e room_1 s m args below meth c T' locs' 0 0 ∧ T'.heap = h' ∧ Fr n0 locs' ∧ Keep h0 h' [] ∧
      ∀ target, Steps p.tables e below (T'.setTop (mkF m 39 #[.val (.int i0), .val (.int i1), .val (.int i2), .val (.int i3), .val (.int i4), .val (.int i5), .val (.int ((i0 &&& (2147483647 : Int32)) % (6 : Int32))), .val (.int (i5 &&& (3 : Int32))), .val (.int (-3 : Int32)), .unset, .unset, .unset, .unset] [])) target → Steps p.tables e below (T0.setTop (mkF m 0 #[.val (.int i0), .val (.int i1), .val (.int i2), .val (.int i3), .val (.int i4), .val (.int i5), .unset, .unset, .unset, .unset, .unset, .unset, .unset] [])) target := by

  refine ⟨T0, _, _, X0, e0, N0, (Keep.refl h0 []), fun target kt => ?_⟩
  show Steps p.tables e below (T0.setTop (mkF m 0 #[.val (.int i0), .val (.int i1), .val (.int i2), .val (.int i3), .val (.int i4), .val (.int i5), .unset, .unset, .unset, .unset, .unset, .unset, .unset] [])) _
  refine XS.iloadN X0.here hx rfl (hb hby at_0) rfl ?_
  show Steps p.tables e below (T0.setTop (mkF m 1 #[.val (.int i0), .val (.int i1), .val (.int i2), .val (.int i3), .val (.int i4), .val (.int i5), .unset, .unset, .unset, .unset, .unset, .unset, .unset] [(.int i0)])) _
  refine X0.ldcInt hx hown (mvT hZ (hw _ (List.mem_of_getElem? (i := 0) rfl))) (g := (mkF m 1 #[.val (.int i0), .val (.int i1), .val (.int i2), .val (.int i3), .val (.int i4), .val (.int i5), .unset, .unset, .unset, .unset, .unset, .unset, .unset] [(.int i0)])) rfl (hb hby at_1) _ ?_
  show Steps p.tables e below (T0.setTop (mkF m 3 #[.val (.int i0), .val (.int i1), .val (.int i2), .val (.int i3), .val (.int i4), .val (.int i5), .unset, .unset, .unset, .unset, .unset, .unset, .unset] [(.int (2147483647 : Int32)), (.int i0)])) _
  refine XS.iand X0.here hx rfl (hb hby at_3) rfl ?_
  show Steps p.tables e below (T0.setTop (mkF m 4 #[.val (.int i0), .val (.int i1), .val (.int i2), .val (.int i3), .val (.int i4), .val (.int i5), .unset, .unset, .unset, .unset, .unset, .unset, .unset] [(.int (i0 &&& (2147483647 : Int32)))])) _
  refine XS.bipush X0.here hx rfl (hb hby at_4) ?_
  show Steps p.tables e below (T0.setTop (mkF m 6 #[.val (.int i0), .val (.int i1), .val (.int i2), .val (.int i3), .val (.int i4), .val (.int i5), .unset, .unset, .unset, .unset, .unset, .unset, .unset] [(.int (6 : Int32)), (.int (i0 &&& (2147483647 : Int32)))])) _
  refine iremM X0 hx rfl (hb hby at_6) rfl hnz6 ?_
  show Steps p.tables e below (T0.setTop (mkF m 7 #[.val (.int i0), .val (.int i1), .val (.int i2), .val (.int i3), .val (.int i4), .val (.int i5), .unset, .unset, .unset, .unset, .unset, .unset, .unset] [(.int ((i0 &&& (2147483647 : Int32)) % (6 : Int32)))])) _
  refine XS.istore X0.here hx rfl (hb hby at_7) rfl (l' := #[.val (.int i0), .val (.int i1), .val (.int i2), .val (.int i3), .val (.int i4), .val (.int i5), .val (.int ((i0 &&& (2147483647 : Int32)) % (6 : Int32))), .unset, .unset, .unset, .unset, .unset, .unset]) rfl ?_
  show Steps p.tables e below (T0.setTop (mkF m 9 #[.val (.int i0), .val (.int i1), .val (.int i2), .val (.int i3), .val (.int i4), .val (.int i5), .val (.int ((i0 &&& (2147483647 : Int32)) % (6 : Int32))), .unset, .unset, .unset, .unset, .unset, .unset] [])) _
  refine XS.iload X0.here hx rfl (hb hby at_9) rfl ?_
  show Steps p.tables e below (T0.setTop (mkF m 11 #[.val (.int i0), .val (.int i1), .val (.int i2), .val (.int i3), .val (.int i4), .val (.int i5), .val (.int ((i0 &&& (2147483647 : Int32)) % (6 : Int32))), .unset, .unset, .unset, .unset, .unset, .unset] [(.int i5)])) _
  refine XS.iconst X0.here hx rfl (hb hby at_11) ?_
  show Steps p.tables e below (T0.setTop (mkF m 12 #[.val (.int i0), .val (.int i1), .val (.int i2), .val (.int i3), .val (.int i4), .val (.int i5), .val (.int ((i0 &&& (2147483647 : Int32)) % (6 : Int32))), .unset, .unset, .unset, .unset, .unset, .unset] [(.int (3 : Int32)), (.int i5)])) _
  refine XS.iand X0.here hx rfl (hb hby at_12) rfl ?_
  show Steps p.tables e below (T0.setTop (mkF m 13 #[.val (.int i0), .val (.int i1), .val (.int i2), .val (.int i3), .val (.int i4), .val (.int i5), .val (.int ((i0 &&& (2147483647 : Int32)) % (6 : Int32))), .unset, .unset, .unset, .unset, .unset, .unset] [(.int (i5 &&& (3 : Int32)))])) _
  refine XS.istore X0.here hx rfl (hb hby at_13) rfl (l' := #[.val (.int i0), .val (.int i1), .val (.int i2), .val (.int i3), .val (.int i4), .val (.int i5), .val (.int ((i0 &&& (2147483647 : Int32)) % (6 : Int32))), .val (.int (i5 &&& (3 : Int32))), .unset, .unset, .unset, .unset, .unset]) rfl ?_
  show Steps p.tables e below (T0.setTop (mkF m 15 #[.val (.int i0), .val (.int i1), .val (.int i2), .val (.int i3), .val (.int i4), .val (.int i5), .val (.int ((i0 &&& (2147483647 : Int32)) % (6 : Int32))), .val (.int (i5 &&& (3 : Int32))), .unset, .unset, .unset, .unset, .unset] [])) _
  refine XS.iload X0.here hx rfl (hb hby at_15) rfl ?_
  show Steps p.tables e below (T0.setTop (mkF m 17 #[.val (.int i0), .val (.int i1), .val (.int i2), .val (.int i3), .val (.int i4), .val (.int i5), .val (.int ((i0 &&& (2147483647 : Int32)) % (6 : Int32))), .val (.int (i5 &&& (3 : Int32))), .unset, .unset, .unset, .unset, .unset] [(.int (i5 &&& (3 : Int32)))])) _
  refine XS.ifYes X0.here hx rfl (pc0 := 17) (pc' := 25) rfl (hb hby at_17) rfl ((if0 _ _).trans (feq hc17).2) (by decide) (by decide) ?_
  show Steps p.tables e below (T0.setTop (mkF m 25 #[.val (.int i0), .val (.int i1), .val (.int i2), .val (.int i3), .val (.int i4), .val (.int i5), .val (.int ((i0 &&& (2147483647 : Int32)) % (6 : Int32))), .val (.int (i5 &&& (3 : Int32))), .unset, .unset, .unset, .unset, .unset] [])) _
  refine XS.iload X0.here hx rfl (hb hby at_25) rfl ?_
  show Steps p.tables e below (T0.setTop (mkF m 27 #[.val (.int i0), .val (.int i1), .val (.int i2), .val (.int i3), .val (.int i4), .val (.int i5), .val (.int ((i0 &&& (2147483647 : Int32)) % (6 : Int32))), .val (.int (i5 &&& (3 : Int32))), .unset, .unset, .unset, .unset, .unset] [(.int (i5 &&& (3 : Int32)))])) _
  refine XS.iconst X0.here hx rfl (hb hby at_27) ?_
  show Steps p.tables e below (T0.setTop (mkF m 28 #[.val (.int i0), .val (.int i1), .val (.int i2), .val (.int i3), .val (.int i4), .val (.int i5), .val (.int ((i0 &&& (2147483647 : Int32)) % (6 : Int32))), .val (.int (i5 &&& (3 : Int32))), .unset, .unset, .unset, .unset, .unset] [(.int (1 : Int32)), (.int (i5 &&& (3 : Int32)))])) _
  refine XS.icmpNo X0.here hx rfl (hb hby at_28) rfl (teq hc28).2 ?_
  show Steps p.tables e below (T0.setTop (mkF m 31 #[.val (.int i0), .val (.int i1), .val (.int i2), .val (.int i3), .val (.int i4), .val (.int i5), .val (.int ((i0 &&& (2147483647 : Int32)) % (6 : Int32))), .val (.int (i5 &&& (3 : Int32))), .unset, .unset, .unset, .unset, .unset] [])) _
  refine XS.bipush X0.here hx rfl (hb hby at_31) ?_
  show Steps p.tables e below (T0.setTop (mkF m 33 #[.val (.int i0), .val (.int i1), .val (.int i2), .val (.int i3), .val (.int i4), .val (.int i5), .val (.int ((i0 &&& (2147483647 : Int32)) % (6 : Int32))), .val (.int (i5 &&& (3 : Int32))), .unset, .unset, .unset, .unset, .unset] [(.int (-3 : Int32))])) _
  refine XS.goto X0.here hx rfl (pc0 := 33) (pc' := 37) rfl (hb hby at_33) (by decide) (by decide) ?_
  show Steps p.tables e below (T0.setTop (mkF m 37 #[.val (.int i0), .val (.int i1), .val (.int i2), .val (.int i3), .val (.int i4), .val (.int i5), .val (.int ((i0 &&& (2147483647 : Int32)) % (6 : Int32))), .val (.int (i5 &&& (3 : Int32))), .unset, .unset, .unset, .unset, .unset] [(.int (-3 : Int32))])) _
  refine XS.istore X0.here hx rfl (hb hby at_37) rfl (l' := #[.val (.int i0), .val (.int i1), .val (.int i2), .val (.int i3), .val (.int i4), .val (.int i5), .val (.int ((i0 &&& (2147483647 : Int32)) % (6 : Int32))), .val (.int (i5 &&& (3 : Int32))), .val (.int (-3 : Int32)), .unset, .unset, .unset, .unset]) rfl ?_
  exact kt
set_option maxRecDepth 65536 in
set_option maxHeartbeats 40000000 in
theorem sgA_tt {p : Program} {l : Launch} {e : Env} {s : State} {m : MethodId} {args : Array Value} {below : List Frame} {meth : Method} {c : Code} {T0 : State} {locs : List Loc} {Z : State} {a0 : Array Value} {h0 : Heap} {n0 : Nat} (i0 : Int32) (i1 : Int32) (i2 : Int32) (i3 : Int32) (i4 : Int32) (i5 : Int32)
    (X0 : Stand p l e room_1 s m args below meth c T0 locs 0 0) (hx : p.tables.exec = Jvm.exec) (hZ : Z.Warmed39 s.vm) (hw : ∀ d ∈ tables_1, d.before a0 Z = true) (hby : c.code = code) (hml : c.maxLocals = 13) (hown : s.vm.findClass "com/example/restless_reasoner/restlessreasoner/engine/tableau/PremisesIsEqualityPinLaw" = some m.cls) (e0 : T0.heap = h0) (Z0 : n0 ≤ h0.size) (N0 : Fr n0 locs) (hnz6 : ¬ ((6 : Int32) = (0 : Int32))) (hc17 : ¬ ((i5 &&& (3 : Int32)) = (0 : Int32))) (hc28 : ¬ ((i5 &&& (3 : Int32)) = (1 : Int32))) :
    ∃ (T' : State) (h' : Heap) (locs' : List Loc), Stand p l e room_1 s m args below meth c T' locs' 0 0 ∧ T'.heap = h' ∧ Fr n0 locs' ∧ Keep h0 h' [] ∧
      ∀ target, Steps p.tables e below (T'.setTop (mkF m 39 #[.val (.int i0), .val (.int i1), .val (.int i2), .val (.int i3), .val (.int i4), .val (.int i5), .val (.int ((i0 &&& (2147483647 : Int32)) % (6 : Int32))), .val (.int (i5 &&& (3 : Int32))), .val (.int i2), .unset, .unset, .unset, .unset] [])) target → Steps p.tables e below (T0.setTop (mkF m 0 #[.val (.int i0), .val (.int i1), .val (.int i2), .val (.int i3), .val (.int i4), .val (.int i5), .unset, .unset, .unset, .unset, .unset, .unset, .unset] [])) target := by

  refine ⟨T0, _, _, X0, e0, N0, (Keep.refl h0 []), fun target kt => ?_⟩
  show Steps p.tables e below (T0.setTop (mkF m 0 #[.val (.int i0), .val (.int i1), .val (.int i2), .val (.int i3), .val (.int i4), .val (.int i5), .unset, .unset, .unset, .unset, .unset, .unset, .unset] [])) _
  refine XS.iloadN X0.here hx rfl (hb hby at_0) rfl ?_
  show Steps p.tables e below (T0.setTop (mkF m 1 #[.val (.int i0), .val (.int i1), .val (.int i2), .val (.int i3), .val (.int i4), .val (.int i5), .unset, .unset, .unset, .unset, .unset, .unset, .unset] [(.int i0)])) _
  refine X0.ldcInt hx hown (mvT hZ (hw _ (List.mem_of_getElem? (i := 0) rfl))) (g := (mkF m 1 #[.val (.int i0), .val (.int i1), .val (.int i2), .val (.int i3), .val (.int i4), .val (.int i5), .unset, .unset, .unset, .unset, .unset, .unset, .unset] [(.int i0)])) rfl (hb hby at_1) _ ?_
  show Steps p.tables e below (T0.setTop (mkF m 3 #[.val (.int i0), .val (.int i1), .val (.int i2), .val (.int i3), .val (.int i4), .val (.int i5), .unset, .unset, .unset, .unset, .unset, .unset, .unset] [(.int (2147483647 : Int32)), (.int i0)])) _
  refine XS.iand X0.here hx rfl (hb hby at_3) rfl ?_
  show Steps p.tables e below (T0.setTop (mkF m 4 #[.val (.int i0), .val (.int i1), .val (.int i2), .val (.int i3), .val (.int i4), .val (.int i5), .unset, .unset, .unset, .unset, .unset, .unset, .unset] [(.int (i0 &&& (2147483647 : Int32)))])) _
  refine XS.bipush X0.here hx rfl (hb hby at_4) ?_
  show Steps p.tables e below (T0.setTop (mkF m 6 #[.val (.int i0), .val (.int i1), .val (.int i2), .val (.int i3), .val (.int i4), .val (.int i5), .unset, .unset, .unset, .unset, .unset, .unset, .unset] [(.int (6 : Int32)), (.int (i0 &&& (2147483647 : Int32)))])) _
  refine iremM X0 hx rfl (hb hby at_6) rfl hnz6 ?_
  show Steps p.tables e below (T0.setTop (mkF m 7 #[.val (.int i0), .val (.int i1), .val (.int i2), .val (.int i3), .val (.int i4), .val (.int i5), .unset, .unset, .unset, .unset, .unset, .unset, .unset] [(.int ((i0 &&& (2147483647 : Int32)) % (6 : Int32)))])) _
  refine XS.istore X0.here hx rfl (hb hby at_7) rfl (l' := #[.val (.int i0), .val (.int i1), .val (.int i2), .val (.int i3), .val (.int i4), .val (.int i5), .val (.int ((i0 &&& (2147483647 : Int32)) % (6 : Int32))), .unset, .unset, .unset, .unset, .unset, .unset]) rfl ?_
  show Steps p.tables e below (T0.setTop (mkF m 9 #[.val (.int i0), .val (.int i1), .val (.int i2), .val (.int i3), .val (.int i4), .val (.int i5), .val (.int ((i0 &&& (2147483647 : Int32)) % (6 : Int32))), .unset, .unset, .unset, .unset, .unset, .unset] [])) _
  refine XS.iload X0.here hx rfl (hb hby at_9) rfl ?_
  show Steps p.tables e below (T0.setTop (mkF m 11 #[.val (.int i0), .val (.int i1), .val (.int i2), .val (.int i3), .val (.int i4), .val (.int i5), .val (.int ((i0 &&& (2147483647 : Int32)) % (6 : Int32))), .unset, .unset, .unset, .unset, .unset, .unset] [(.int i5)])) _
  refine XS.iconst X0.here hx rfl (hb hby at_11) ?_
  show Steps p.tables e below (T0.setTop (mkF m 12 #[.val (.int i0), .val (.int i1), .val (.int i2), .val (.int i3), .val (.int i4), .val (.int i5), .val (.int ((i0 &&& (2147483647 : Int32)) % (6 : Int32))), .unset, .unset, .unset, .unset, .unset, .unset] [(.int (3 : Int32)), (.int i5)])) _
  refine XS.iand X0.here hx rfl (hb hby at_12) rfl ?_
  show Steps p.tables e below (T0.setTop (mkF m 13 #[.val (.int i0), .val (.int i1), .val (.int i2), .val (.int i3), .val (.int i4), .val (.int i5), .val (.int ((i0 &&& (2147483647 : Int32)) % (6 : Int32))), .unset, .unset, .unset, .unset, .unset, .unset] [(.int (i5 &&& (3 : Int32)))])) _
  refine XS.istore X0.here hx rfl (hb hby at_13) rfl (l' := #[.val (.int i0), .val (.int i1), .val (.int i2), .val (.int i3), .val (.int i4), .val (.int i5), .val (.int ((i0 &&& (2147483647 : Int32)) % (6 : Int32))), .val (.int (i5 &&& (3 : Int32))), .unset, .unset, .unset, .unset, .unset]) rfl ?_
  show Steps p.tables e below (T0.setTop (mkF m 15 #[.val (.int i0), .val (.int i1), .val (.int i2), .val (.int i3), .val (.int i4), .val (.int i5), .val (.int ((i0 &&& (2147483647 : Int32)) % (6 : Int32))), .val (.int (i5 &&& (3 : Int32))), .unset, .unset, .unset, .unset, .unset] [])) _
  refine XS.iload X0.here hx rfl (hb hby at_15) rfl ?_
  show Steps p.tables e below (T0.setTop (mkF m 17 #[.val (.int i0), .val (.int i1), .val (.int i2), .val (.int i3), .val (.int i4), .val (.int i5), .val (.int ((i0 &&& (2147483647 : Int32)) % (6 : Int32))), .val (.int (i5 &&& (3 : Int32))), .unset, .unset, .unset, .unset, .unset] [(.int (i5 &&& (3 : Int32)))])) _
  refine XS.ifYes X0.here hx rfl (pc0 := 17) (pc' := 25) rfl (hb hby at_17) rfl ((if0 _ _).trans (feq hc17).2) (by decide) (by decide) ?_
  show Steps p.tables e below (T0.setTop (mkF m 25 #[.val (.int i0), .val (.int i1), .val (.int i2), .val (.int i3), .val (.int i4), .val (.int i5), .val (.int ((i0 &&& (2147483647 : Int32)) % (6 : Int32))), .val (.int (i5 &&& (3 : Int32))), .unset, .unset, .unset, .unset, .unset] [])) _
  refine XS.iload X0.here hx rfl (hb hby at_25) rfl ?_
  show Steps p.tables e below (T0.setTop (mkF m 27 #[.val (.int i0), .val (.int i1), .val (.int i2), .val (.int i3), .val (.int i4), .val (.int i5), .val (.int ((i0 &&& (2147483647 : Int32)) % (6 : Int32))), .val (.int (i5 &&& (3 : Int32))), .unset, .unset, .unset, .unset, .unset] [(.int (i5 &&& (3 : Int32)))])) _
  refine XS.iconst X0.here hx rfl (hb hby at_27) ?_
  show Steps p.tables e below (T0.setTop (mkF m 28 #[.val (.int i0), .val (.int i1), .val (.int i2), .val (.int i3), .val (.int i4), .val (.int i5), .val (.int ((i0 &&& (2147483647 : Int32)) % (6 : Int32))), .val (.int (i5 &&& (3 : Int32))), .unset, .unset, .unset, .unset, .unset] [(.int (1 : Int32)), (.int (i5 &&& (3 : Int32)))])) _
  refine XS.icmpYes X0.here hx rfl (pc0 := 28) (pc' := 36) rfl (hb hby at_28) rfl (feq hc28).2 (by decide) (by decide) ?_
  show Steps p.tables e below (T0.setTop (mkF m 36 #[.val (.int i0), .val (.int i1), .val (.int i2), .val (.int i3), .val (.int i4), .val (.int i5), .val (.int ((i0 &&& (2147483647 : Int32)) % (6 : Int32))), .val (.int (i5 &&& (3 : Int32))), .unset, .unset, .unset, .unset, .unset] [])) _
  refine XS.iloadN X0.here hx rfl (hb hby at_36) rfl ?_
  show Steps p.tables e below (T0.setTop (mkF m 37 #[.val (.int i0), .val (.int i1), .val (.int i2), .val (.int i3), .val (.int i4), .val (.int i5), .val (.int ((i0 &&& (2147483647 : Int32)) % (6 : Int32))), .val (.int (i5 &&& (3 : Int32))), .unset, .unset, .unset, .unset, .unset] [(.int i2)])) _
  refine XS.istore X0.here hx rfl (hb hby at_37) rfl (l' := #[.val (.int i0), .val (.int i1), .val (.int i2), .val (.int i3), .val (.int i4), .val (.int i5), .val (.int ((i0 &&& (2147483647 : Int32)) % (6 : Int32))), .val (.int (i5 &&& (3 : Int32))), .val (.int i2), .unset, .unset, .unset, .unset]) rfl ?_
  exact kt
set_option maxRecDepth 65536 in
set_option maxHeartbeats 40000000 in
theorem sgA {p : Program} {l : Launch} {e : Env} {s : State} {m : MethodId} {args : Array Value} {below : List Frame} {meth : Method} {c : Code} {T0 : State} {locs : List Loc} {Z : State} {a0 : Array Value} {h0 : Heap} {n0 : Nat} (i0 : Int32) (i1 : Int32) (i2 : Int32) (i3 : Int32) (i4 : Int32) (i5 : Int32) 
    (X0 : Stand p l e room_1 s m args below meth c T0 locs 0 0) (hx : p.tables.exec = Jvm.exec) (hZ : Z.Warmed39 s.vm) (hw : ∀ d ∈ tables_1, d.before a0 Z = true) (hby : c.code = code) (hml : c.maxLocals = 13) (hown : s.vm.findClass "com/example/restless_reasoner/restlessreasoner/engine/tableau/PremisesIsEqualityPinLaw" = some m.cls) (e0 : T0.heap = h0) (Z0 : n0 ≤ h0.size) (N0 : Fr n0 locs) :
    ∃ (T' : State) (h' : Heap) (locs' : List Loc), Stand p l e room_1 s m args below meth c T' locs' 0 0 ∧ T'.heap = h' ∧ Fr n0 locs' ∧ Keep h0 h' [] ∧
      ∀ target, Steps p.tables e below (T'.setTop (mkF m 39 #[.val (.int i0), .val (.int i1), .val (.int i2), .val (.int i3), .val (.int i4), .val (.int i5), .val (.int ((i0 &&& (2147483647 : Int32)) % (6 : Int32))), .val (.int (i5 &&& (3 : Int32))), .val (.int (own_sec i5 i2)), .unset, .unset, .unset, .unset] [])) target → Steps p.tables e below (T0.setTop (mkF m 0 #[.val (.int i0), .val (.int i1), .val (.int i2), .val (.int i3), .val (.int i4), .val (.int i5), .unset, .unset, .unset, .unset, .unset, .unset, .unset] [])) target := by
  unfold own_sec
  by_cases hc17 : (i5 &&& (3 : Int32)) = (0 : Int32)
  · rw [if_pos hc17]; exact sgA_f i0 i1 i2 i3 i4 i5 X0 hx hZ hw hby hml hown e0 Z0 N0 (by decide) hc17
  · rw [if_neg hc17]
    by_cases hc28 : (i5 &&& (3 : Int32)) = (1 : Int32)
    · rw [if_pos hc28]; exact sgA_tf i0 i1 i2 i3 i4 i5 X0 hx hZ hw hby hml hown e0 Z0 N0 (by decide) hc17 hc28
    · rw [if_neg hc28]; exact sgA_tt i0 i1 i2 i3 i4 i5 X0 hx hZ hw hby hml hown e0 Z0 N0 (by decide) hc17 hc28
set_option maxRecDepth 65536 in
set_option maxHeartbeats 40000000 in
theorem sgB0 {p : Program} {l : Launch} {e : Env} {s : State} {m : MethodId} {args : Array Value} {below : List Frame} {meth : Method} {c : Code} {T0 : State} {locs : List Loc} {Z : State} {a0 : Array Value} {h0 : Heap} {n0 : Nat} (i0 : Int32) (i1 : Int32) (i2 : Int32) (i3 : Int32) (i4 : Int32) (i5 : Int32) (i7 : Int32) (i8 : Int32)
    (X0 : Stand p l e room_1 s m args below meth c T0 locs 0 0) (hx : p.tables.exec = Jvm.exec) (hZ : Z.Warmed39 s.vm) (hw : ∀ d ∈ tables_1, d.before a0 Z = true) (hby : c.code = code) (hml : c.maxLocals = 13) (hown : s.vm.findClass "com/example/restless_reasoner/restlessreasoner/engine/tableau/PremisesIsEqualityPinLaw" = some m.cls) (e0 : T0.heap = h0) (Z0 : n0 ≤ h0.size) (N0 : Fr n0 locs) (hc47 : ¬ ((0 : Int32) < (0 : Int32))) (hc58 : ¬ ((1 : Int32) < (0 : Int32))) (hc70 : ¬ ((2 : Int32) < (0 : Int32))) (hc81 : ¬ ((3 : Int32) < (0 : Int32))) (hc93 : ¬ ((4 : Int32) < (0 : Int32))) :
    ∃ (T' : State) (h' : Heap) (locs' : List Loc) (b7 : Addr) (k7 : ClassId), Stand p l e room_1 s m args below meth c T' locs' 1 5 ∧ T'.heap = h' ∧ Fr n0 locs' ∧ Keep h0 h' [] ∧ n0 ≤ b7 ∧ h0.size ≤ b7 ∧ Arv Z h' b7 k7 .int (0 : Int32) [] (.int (0 : Int32)) ∧
      ∀ target, Steps p.tables e below (T'.setTop (mkF m 102 #[.val (.int i0), .val (.int i1), .val (.int i2), .val (.int i3), .val (.int i4), .val (.int i5), .val (.int (0 : Int32)), .val (.int i7), .val (.int i8), .val (.ref b7), .unset, .unset, .unset] [])) target → Steps p.tables e below (T0.setTop (mkF m 39 #[.val (.int i0), .val (.int i1), .val (.int i2), .val (.int i3), .val (.int i4), .val (.int i5), .val (.int (0 : Int32)), .val (.int i7), .val (.int i8), .unset, .unset, .unset, .unset] [])) target := by
  obtain ⟨T7, h7, k7, X7, e7, E7, A7, st7⟩ := newP X0 hx hZ (hw _ (List.mem_of_getElem? (i := 1) rfl)) e0 (g := (mkF m 41 #[.val (.int i0), .val (.int i1), .val (.int i2), .val (.int i3), .val (.int i4), .val (.int i5), .val (.int (0 : Int32)), .val (.int i7), .val (.int i8), .unset, .unset, .unset, .unset] [(.int (0 : Int32))])) rfl (hb hby at_41) rfl (by decide) (cap := 5) (by decide) (by decide) (by decide) (by decide)
  obtain ⟨b7, g7⟩ : ∃ z, z = h0.size := ⟨_, rfl⟩
  rw [← g7] at A7 st7
  have V_b7 := Arv.new A7 (by decide)
  have g_b7 : n0 ≤ b7 := Nat.le_trans Z0 (Nat.le_of_eq g7.symm)
  have sz_b7 : h0.size ≤ b7 := (Nat.le_trans (Keep.refl h0 []).1 (Nat.le_of_eq g7.symm))
  have K7 : Keep h0 h7 [] := (Keep.refl h0 []).ext E7
  refine ⟨T7, _, _, b7, k7, X7, e7, N0, K7, g_b7, sz_b7, V_b7, fun target kt => ?_⟩
  show Steps p.tables e below (T0.setTop (mkF m 39 #[.val (.int i0), .val (.int i1), .val (.int i2), .val (.int i3), .val (.int i4), .val (.int i5), .val (.int (0 : Int32)), .val (.int i7), .val (.int i8), .unset, .unset, .unset, .unset] [])) _
  refine XS.iload X0.here hx rfl (hb hby at_39) rfl ?_
  show Steps p.tables e below (T0.setTop (mkF m 41 #[.val (.int i0), .val (.int i1), .val (.int i2), .val (.int i3), .val (.int i4), .val (.int i5), .val (.int (0 : Int32)), .val (.int i7), .val (.int i8), .unset, .unset, .unset, .unset] [(.int (0 : Int32))])) _
  refine st7 _ ?_
  show Steps p.tables e below (T7.setTop (mkF m 43 #[.val (.int i0), .val (.int i1), .val (.int i2), .val (.int i3), .val (.int i4), .val (.int i5), .val (.int (0 : Int32)), .val (.int i7), .val (.int i8), .unset, .unset, .unset, .unset] [(.ref b7)])) _
  refine XS.astore X7.here hx rfl (hb hby at_43) rfl rfl (l' := #[.val (.int i0), .val (.int i1), .val (.int i2), .val (.int i3), .val (.int i4), .val (.int i5), .val (.int (0 : Int32)), .val (.int i7), .val (.int i8), .val (.ref b7), .unset, .unset, .unset]) rfl ?_
  show Steps p.tables e below (T7.setTop (mkF m 45 #[.val (.int i0), .val (.int i1), .val (.int i2), .val (.int i3), .val (.int i4), .val (.int i5), .val (.int (0 : Int32)), .val (.int i7), .val (.int i8), .val (.ref b7), .unset, .unset, .unset] [])) _
  refine XS.iload X7.here hx rfl (hb hby at_45) rfl ?_
  show Steps p.tables e below (T7.setTop (mkF m 47 #[.val (.int i0), .val (.int i1), .val (.int i2), .val (.int i3), .val (.int i4), .val (.int i5), .val (.int (0 : Int32)), .val (.int i7), .val (.int i8), .val (.ref b7), .unset, .unset, .unset] [(.int (0 : Int32))])) _
  refine XS.ifYes X7.here hx rfl (pc0 := 47) (pc' := 55) rfl (hb hby at_47) rfl ((if0 _ _).trans (flt hc47).2.2.2) (by decide) (by decide) ?_
  show Steps p.tables e below (T7.setTop (mkF m 55 #[.val (.int i0), .val (.int i1), .val (.int i2), .val (.int i3), .val (.int i4), .val (.int i5), .val (.int (0 : Int32)), .val (.int i7), .val (.int i8), .val (.ref b7), .unset, .unset, .unset] [])) _
  refine XS.iload X7.here hx rfl (hb hby at_55) rfl ?_
  show Steps p.tables e below (T7.setTop (mkF m 57 #[.val (.int i0), .val (.int i1), .val (.int i2), .val (.int i3), .val (.int i4), .val (.int i5), .val (.int (0 : Int32)), .val (.int i7), .val (.int i8), .val (.ref b7), .unset, .unset, .unset] [(.int (0 : Int32))])) _
  refine XS.iconst X7.here hx rfl (hb hby at_57) ?_
  show Steps p.tables e below (T7.setTop (mkF m 58 #[.val (.int i0), .val (.int i1), .val (.int i2), .val (.int i3), .val (.int i4), .val (.int i5), .val (.int (0 : Int32)), .val (.int i7), .val (.int i8), .val (.ref b7), .unset, .unset, .unset] [(.int (1 : Int32)), (.int (0 : Int32))])) _
  refine XS.icmpYes X7.here hx rfl (pc0 := 58) (pc' := 67) rfl (hb hby at_58) rfl (flt hc58).2.2.2 (by decide) (by decide) ?_
  show Steps p.tables e below (T7.setTop (mkF m 67 #[.val (.int i0), .val (.int i1), .val (.int i2), .val (.int i3), .val (.int i4), .val (.int i5), .val (.int (0 : Int32)), .val (.int i7), .val (.int i8), .val (.ref b7), .unset, .unset, .unset] [])) _
  refine XS.iload X7.here hx rfl (hb hby at_67) rfl ?_
  show Steps p.tables e below (T7.setTop (mkF m 69 #[.val (.int i0), .val (.int i1), .val (.int i2), .val (.int i3), .val (.int i4), .val (.int i5), .val (.int (0 : Int32)), .val (.int i7), .val (.int i8), .val (.ref b7), .unset, .unset, .unset] [(.int (0 : Int32))])) _
  refine XS.iconst X7.here hx rfl (hb hby at_69) ?_
  show Steps p.tables e below (T7.setTop (mkF m 70 #[.val (.int i0), .val (.int i1), .val (.int i2), .val (.int i3), .val (.int i4), .val (.int i5), .val (.int (0 : Int32)), .val (.int i7), .val (.int i8), .val (.ref b7), .unset, .unset, .unset] [(.int (2 : Int32)), (.int (0 : Int32))])) _
  refine XS.icmpYes X7.here hx rfl (pc0 := 70) (pc' := 78) rfl (hb hby at_70) rfl (flt hc70).2.2.2 (by decide) (by decide) ?_
  show Steps p.tables e below (T7.setTop (mkF m 78 #[.val (.int i0), .val (.int i1), .val (.int i2), .val (.int i3), .val (.int i4), .val (.int i5), .val (.int (0 : Int32)), .val (.int i7), .val (.int i8), .val (.ref b7), .unset, .unset, .unset] [])) _
  refine XS.iload X7.here hx rfl (hb hby at_78) rfl ?_
  show Steps p.tables e below (T7.setTop (mkF m 80 #[.val (.int i0), .val (.int i1), .val (.int i2), .val (.int i3), .val (.int i4), .val (.int i5), .val (.int (0 : Int32)), .val (.int i7), .val (.int i8), .val (.ref b7), .unset, .unset, .unset] [(.int (0 : Int32))])) _
  refine XS.iconst X7.here hx rfl (hb hby at_80) ?_
  show Steps p.tables e below (T7.setTop (mkF m 81 #[.val (.int i0), .val (.int i1), .val (.int i2), .val (.int i3), .val (.int i4), .val (.int i5), .val (.int (0 : Int32)), .val (.int i7), .val (.int i8), .val (.ref b7), .unset, .unset, .unset] [(.int (3 : Int32)), (.int (0 : Int32))])) _
  refine XS.icmpYes X7.here hx rfl (pc0 := 81) (pc' := 90) rfl (hb hby at_81) rfl (flt hc81).2.2.2 (by decide) (by decide) ?_
  show Steps p.tables e below (T7.setTop (mkF m 90 #[.val (.int i0), .val (.int i1), .val (.int i2), .val (.int i3), .val (.int i4), .val (.int i5), .val (.int (0 : Int32)), .val (.int i7), .val (.int i8), .val (.ref b7), .unset, .unset, .unset] [])) _
  refine XS.iload X7.here hx rfl (hb hby at_90) rfl ?_
  show Steps p.tables e below (T7.setTop (mkF m 92 #[.val (.int i0), .val (.int i1), .val (.int i2), .val (.int i3), .val (.int i4), .val (.int i5), .val (.int (0 : Int32)), .val (.int i7), .val (.int i8), .val (.ref b7), .unset, .unset, .unset] [(.int (0 : Int32))])) _
  refine XS.iconst X7.here hx rfl (hb hby at_92) ?_
  show Steps p.tables e below (T7.setTop (mkF m 93 #[.val (.int i0), .val (.int i1), .val (.int i2), .val (.int i3), .val (.int i4), .val (.int i5), .val (.int (0 : Int32)), .val (.int i7), .val (.int i8), .val (.ref b7), .unset, .unset, .unset] [(.int (4 : Int32)), (.int (0 : Int32))])) _
  refine XS.icmpYes X7.here hx rfl (pc0 := 93) (pc' := 102) rfl (hb hby at_93) rfl (flt hc93).2.2.2 (by decide) (by decide) ?_
  exact kt
set_option maxRecDepth 65536 in
set_option maxHeartbeats 40000000 in
theorem sgB1 {p : Program} {l : Launch} {e : Env} {s : State} {m : MethodId} {args : Array Value} {below : List Frame} {meth : Method} {c : Code} {T0 : State} {locs : List Loc} {Z : State} {a0 : Array Value} {h0 : Heap} {n0 : Nat} (i0 : Int32) (i1 : Int32) (i2 : Int32) (i3 : Int32) (i4 : Int32) (i5 : Int32) (i7 : Int32) (i8 : Int32)
    (X0 : Stand p l e room_1 s m args below meth c T0 locs 0 0) (hx : p.tables.exec = Jvm.exec) (hZ : Z.Warmed39 s.vm) (hw : ∀ d ∈ tables_1, d.before a0 Z = true) (hby : c.code = code) (hml : c.maxLocals = 13) (hown : s.vm.findClass "com/example/restless_reasoner/restlessreasoner/engine/tableau/PremisesIsEqualityPinLaw" = some m.cls) (e0 : T0.heap = h0) (Z0 : n0 ≤ h0.size) (N0 : Fr n0 locs) (hc47 : (0 : Int32) < (1 : Int32)) (hc58 : ¬ ((1 : Int32) < (1 : Int32))) (hc70 : ¬ ((2 : Int32) < (1 : Int32))) (hc81 : ¬ ((3 : Int32) < (1 : Int32))) (hc93 : ¬ ((4 : Int32) < (1 : Int32))) :
    ∃ (T' : State) (h' : Heap) (locs' : List Loc) (b7 : Addr) (k7 : ClassId), Stand p l e room_1 s m args below meth c T' locs' 1 5 ∧ T'.heap = h' ∧ Fr n0 locs' ∧ Keep h0 h' [] ∧ n0 ≤ b7 ∧ h0.size ≤ b7 ∧ Arv Z h' b7 k7 .int (1 : Int32) [(.int i1)] (.int (0 : Int32)) ∧
      ∀ target, Steps p.tables e below (T'.setTop (mkF m 102 #[.val (.int i0), .val (.int i1), .val (.int i2), .val (.int i3), .val (.int i4), .val (.int i5), .val (.int (1 : Int32)), .val (.int i7), .val (.int i8), .val (.ref b7), .unset, .unset, .unset] [])) target → Steps p.tables e below (T0.setTop (mkF m 39 #[.val (.int i0), .val (.int i1), .val (.int i2), .val (.int i3), .val (.int i4), .val (.int i5), .val (.int (1 : Int32)), .val (.int i7), .val (.int i8), .unset, .unset, .unset, .unset] [])) target := by
  obtain ⟨T7, h7, k7, X7, e7, E7, A7, st7⟩ := newP X0 hx hZ (hw _ (List.mem_of_getElem? (i := 1) rfl)) e0 (g := (mkF m 41 #[.val (.int i0), .val (.int i1), .val (.int i2), .val (.int i3), .val (.int i4), .val (.int i5), .val (.int (1 : Int32)), .val (.int i7), .val (.int i8), .unset, .unset, .unset, .unset] [(.int (1 : Int32))])) rfl (hb hby at_41) rfl (by decide) (cap := 5) (by decide) (by decide) (by decide) (by decide)
  obtain ⟨b7, g7⟩ : ∃ z, z = h0.size := ⟨_, rfl⟩
  rw [← g7] at A7 st7
  have V_b7 : Arv Z h7 b7 k7 .int (1 : Int32) [(.int (0 : Int32))] (.int (0 : Int32)) := (Arv.new A7 (by decide)).pad (pad_rep [] (.int (0 : Int32)) 1)
  have g_b7 : n0 ≤ b7 := Nat.le_trans Z0 (Nat.le_of_eq g7.symm)
  have sz_b7 : h0.size ≤ b7 := (Nat.le_trans (Keep.refl h0 []).1 (Nat.le_of_eq g7.symm))
  have K7 : Keep h0 h7 [] := (Keep.refl h0 []).ext E7
  obtain ⟨cl_b7_54, Ar_b7, q_b7, S_b7, N_b7, H_b7, G_b7⟩ := V_b7
  have hin54 : ¬ ((0 : Int32) < 0 ∨ cl_b7_54.slots.size ≤ ((0 : Int32)).toNatClampNeg) := inb_of S_b7 ⟨by decide, by decide⟩
  obtain ⟨T8, h8, X8, e8, W8, st8⟩ := stI X7 hx hZ e7 Ar_b7 (j := (0 : Int32)) hin54 (g := (mkF m 54 #[.val (.int i0), .val (.int i1), .val (.int i2), .val (.int i3), .val (.int i4), .val (.int i5), .val (.int (1 : Int32)), .val (.int i7), .val (.int i8), .val (.ref b7), .unset, .unset, .unset] [(.int i1), (.int (0 : Int32)), (.ref b7)])) rfl rfl (hb hby at_54)
  have V_b7_8 := Arv.set Ar_b7 q_b7 S_b7 N_b7 H_b7 G_b7 rfl W8 0 rfl (Nat.le_of_ble_eq_true rfl)
  have K8 : Keep h0 h8 [] := K7.wr W8 (Or.inr sz_b7)
  have N8 := Fr.snoc X8 N0 g_b7
  refine ⟨T8, _, _, b7, k7, X8, e8, N8, K8, g_b7, sz_b7, V_b7_8, fun target kt => ?_⟩
  show Steps p.tables e below (T0.setTop (mkF m 39 #[.val (.int i0), .val (.int i1), .val (.int i2), .val (.int i3), .val (.int i4), .val (.int i5), .val (.int (1 : Int32)), .val (.int i7), .val (.int i8), .unset, .unset, .unset, .unset] [])) _
  refine XS.iload X0.here hx rfl (hb hby at_39) rfl ?_
  show Steps p.tables e below (T0.setTop (mkF m 41 #[.val (.int i0), .val (.int i1), .val (.int i2), .val (.int i3), .val (.int i4), .val (.int i5), .val (.int (1 : Int32)), .val (.int i7), .val (.int i8), .unset, .unset, .unset, .unset] [(.int (1 : Int32))])) _
  refine st7 _ ?_
  show Steps p.tables e below (T7.setTop (mkF m 43 #[.val (.int i0), .val (.int i1), .val (.int i2), .val (.int i3), .val (.int i4), .val (.int i5), .val (.int (1 : Int32)), .val (.int i7), .val (.int i8), .unset, .unset, .unset, .unset] [(.ref b7)])) _
  refine XS.astore X7.here hx rfl (hb hby at_43) rfl rfl (l' := #[.val (.int i0), .val (.int i1), .val (.int i2), .val (.int i3), .val (.int i4), .val (.int i5), .val (.int (1 : Int32)), .val (.int i7), .val (.int i8), .val (.ref b7), .unset, .unset, .unset]) rfl ?_
  show Steps p.tables e below (T7.setTop (mkF m 45 #[.val (.int i0), .val (.int i1), .val (.int i2), .val (.int i3), .val (.int i4), .val (.int i5), .val (.int (1 : Int32)), .val (.int i7), .val (.int i8), .val (.ref b7), .unset, .unset, .unset] [])) _
  refine XS.iload X7.here hx rfl (hb hby at_45) rfl ?_
  show Steps p.tables e below (T7.setTop (mkF m 47 #[.val (.int i0), .val (.int i1), .val (.int i2), .val (.int i3), .val (.int i4), .val (.int i5), .val (.int (1 : Int32)), .val (.int i7), .val (.int i8), .val (.ref b7), .unset, .unset, .unset] [(.int (1 : Int32))])) _
  refine XS.ifNo X7.here hx rfl (hb hby at_47) rfl ((if0 _ _).trans (tlt hc47).2.2.2) ?_
  show Steps p.tables e below (T7.setTop (mkF m 50 #[.val (.int i0), .val (.int i1), .val (.int i2), .val (.int i3), .val (.int i4), .val (.int i5), .val (.int (1 : Int32)), .val (.int i7), .val (.int i8), .val (.ref b7), .unset, .unset, .unset] [])) _
  refine XS.aload X7.here hx rfl (hb hby at_50) rfl rfl ?_
  show Steps p.tables e below (T7.setTop (mkF m 52 #[.val (.int i0), .val (.int i1), .val (.int i2), .val (.int i3), .val (.int i4), .val (.int i5), .val (.int (1 : Int32)), .val (.int i7), .val (.int i8), .val (.ref b7), .unset, .unset, .unset] [(.ref b7)])) _
  refine XS.iconst X7.here hx rfl (hb hby at_52) ?_
  show Steps p.tables e below (T7.setTop (mkF m 53 #[.val (.int i0), .val (.int i1), .val (.int i2), .val (.int i3), .val (.int i4), .val (.int i5), .val (.int (1 : Int32)), .val (.int i7), .val (.int i8), .val (.ref b7), .unset, .unset, .unset] [(.int (0 : Int32)), (.ref b7)])) _
  refine XS.iloadN X7.here hx rfl (hb hby at_53) rfl ?_
  show Steps p.tables e below (T7.setTop (mkF m 54 #[.val (.int i0), .val (.int i1), .val (.int i2), .val (.int i3), .val (.int i4), .val (.int i5), .val (.int (1 : Int32)), .val (.int i7), .val (.int i8), .val (.ref b7), .unset, .unset, .unset] [(.int i1), (.int (0 : Int32)), (.ref b7)])) _
  refine st8 _ ?_
  show Steps p.tables e below (T8.setTop (mkF m 55 #[.val (.int i0), .val (.int i1), .val (.int i2), .val (.int i3), .val (.int i4), .val (.int i5), .val (.int (1 : Int32)), .val (.int i7), .val (.int i8), .val (.ref b7), .unset, .unset, .unset] [])) _
  refine XS.iload X8.here hx rfl (hb hby at_55) rfl ?_
  show Steps p.tables e below (T8.setTop (mkF m 57 #[.val (.int i0), .val (.int i1), .val (.int i2), .val (.int i3), .val (.int i4), .val (.int i5), .val (.int (1 : Int32)), .val (.int i7), .val (.int i8), .val (.ref b7), .unset, .unset, .unset] [(.int (1 : Int32))])) _
  refine XS.iconst X8.here hx rfl (hb hby at_57) ?_
  show Steps p.tables e below (T8.setTop (mkF m 58 #[.val (.int i0), .val (.int i1), .val (.int i2), .val (.int i3), .val (.int i4), .val (.int i5), .val (.int (1 : Int32)), .val (.int i7), .val (.int i8), .val (.ref b7), .unset, .unset, .unset] [(.int (1 : Int32)), (.int (1 : Int32))])) _
  refine XS.icmpYes X8.here hx rfl (pc0 := 58) (pc' := 67) rfl (hb hby at_58) rfl (flt hc58).2.2.2 (by decide) (by decide) ?_
  show Steps p.tables e below (T8.setTop (mkF m 67 #[.val (.int i0), .val (.int i1), .val (.int i2), .val (.int i3), .val (.int i4), .val (.int i5), .val (.int (1 : Int32)), .val (.int i7), .val (.int i8), .val (.ref b7), .unset, .unset, .unset] [])) _
  refine XS.iload X8.here hx rfl (hb hby at_67) rfl ?_
  show Steps p.tables e below (T8.setTop (mkF m 69 #[.val (.int i0), .val (.int i1), .val (.int i2), .val (.int i3), .val (.int i4), .val (.int i5), .val (.int (1 : Int32)), .val (.int i7), .val (.int i8), .val (.ref b7), .unset, .unset, .unset] [(.int (1 : Int32))])) _
  refine XS.iconst X8.here hx rfl (hb hby at_69) ?_
  show Steps p.tables e below (T8.setTop (mkF m 70 #[.val (.int i0), .val (.int i1), .val (.int i2), .val (.int i3), .val (.int i4), .val (.int i5), .val (.int (1 : Int32)), .val (.int i7), .val (.int i8), .val (.ref b7), .unset, .unset, .unset] [(.int (2 : Int32)), (.int (1 : Int32))])) _
  refine XS.icmpYes X8.here hx rfl (pc0 := 70) (pc' := 78) rfl (hb hby at_70) rfl (flt hc70).2.2.2 (by decide) (by decide) ?_
  show Steps p.tables e below (T8.setTop (mkF m 78 #[.val (.int i0), .val (.int i1), .val (.int i2), .val (.int i3), .val (.int i4), .val (.int i5), .val (.int (1 : Int32)), .val (.int i7), .val (.int i8), .val (.ref b7), .unset, .unset, .unset] [])) _
  refine XS.iload X8.here hx rfl (hb hby at_78) rfl ?_
  show Steps p.tables e below (T8.setTop (mkF m 80 #[.val (.int i0), .val (.int i1), .val (.int i2), .val (.int i3), .val (.int i4), .val (.int i5), .val (.int (1 : Int32)), .val (.int i7), .val (.int i8), .val (.ref b7), .unset, .unset, .unset] [(.int (1 : Int32))])) _
  refine XS.iconst X8.here hx rfl (hb hby at_80) ?_
  show Steps p.tables e below (T8.setTop (mkF m 81 #[.val (.int i0), .val (.int i1), .val (.int i2), .val (.int i3), .val (.int i4), .val (.int i5), .val (.int (1 : Int32)), .val (.int i7), .val (.int i8), .val (.ref b7), .unset, .unset, .unset] [(.int (3 : Int32)), (.int (1 : Int32))])) _
  refine XS.icmpYes X8.here hx rfl (pc0 := 81) (pc' := 90) rfl (hb hby at_81) rfl (flt hc81).2.2.2 (by decide) (by decide) ?_
  show Steps p.tables e below (T8.setTop (mkF m 90 #[.val (.int i0), .val (.int i1), .val (.int i2), .val (.int i3), .val (.int i4), .val (.int i5), .val (.int (1 : Int32)), .val (.int i7), .val (.int i8), .val (.ref b7), .unset, .unset, .unset] [])) _
  refine XS.iload X8.here hx rfl (hb hby at_90) rfl ?_
  show Steps p.tables e below (T8.setTop (mkF m 92 #[.val (.int i0), .val (.int i1), .val (.int i2), .val (.int i3), .val (.int i4), .val (.int i5), .val (.int (1 : Int32)), .val (.int i7), .val (.int i8), .val (.ref b7), .unset, .unset, .unset] [(.int (1 : Int32))])) _
  refine XS.iconst X8.here hx rfl (hb hby at_92) ?_
  show Steps p.tables e below (T8.setTop (mkF m 93 #[.val (.int i0), .val (.int i1), .val (.int i2), .val (.int i3), .val (.int i4), .val (.int i5), .val (.int (1 : Int32)), .val (.int i7), .val (.int i8), .val (.ref b7), .unset, .unset, .unset] [(.int (4 : Int32)), (.int (1 : Int32))])) _
  refine XS.icmpYes X8.here hx rfl (pc0 := 93) (pc' := 102) rfl (hb hby at_93) rfl (flt hc93).2.2.2 (by decide) (by decide) ?_
  exact kt
set_option maxRecDepth 65536 in
set_option maxHeartbeats 40000000 in
theorem sgB2 {p : Program} {l : Launch} {e : Env} {s : State} {m : MethodId} {args : Array Value} {below : List Frame} {meth : Method} {c : Code} {T0 : State} {locs : List Loc} {Z : State} {a0 : Array Value} {h0 : Heap} {n0 : Nat} (i0 : Int32) (i1 : Int32) (i2 : Int32) (i3 : Int32) (i4 : Int32) (i5 : Int32) (i7 : Int32) (i8 : Int32)
    (X0 : Stand p l e room_1 s m args below meth c T0 locs 0 0) (hx : p.tables.exec = Jvm.exec) (hZ : Z.Warmed39 s.vm) (hw : ∀ d ∈ tables_1, d.before a0 Z = true) (hby : c.code = code) (hml : c.maxLocals = 13) (hown : s.vm.findClass "com/example/restless_reasoner/restlessreasoner/engine/tableau/PremisesIsEqualityPinLaw" = some m.cls) (e0 : T0.heap = h0) (Z0 : n0 ≤ h0.size) (N0 : Fr n0 locs) (hc47 : (0 : Int32) < (2 : Int32)) (hc58 : (1 : Int32) < (2 : Int32)) (hc70 : ¬ ((2 : Int32) < (2 : Int32))) (hc81 : ¬ ((3 : Int32) < (2 : Int32))) (hc93 : ¬ ((4 : Int32) < (2 : Int32))) :
    ∃ (T' : State) (h' : Heap) (locs' : List Loc) (b7 : Addr) (k7 : ClassId), Stand p l e room_1 s m args below meth c T' locs' 1 5 ∧ T'.heap = h' ∧ Fr n0 locs' ∧ Keep h0 h' [] ∧ n0 ≤ b7 ∧ h0.size ≤ b7 ∧ Arv Z h' b7 k7 .int (2 : Int32) [(.int i1), (.int i8)] (.int (0 : Int32)) ∧
      ∀ target, Steps p.tables e below (T'.setTop (mkF m 102 #[.val (.int i0), .val (.int i1), .val (.int i2), .val (.int i3), .val (.int i4), .val (.int i5), .val (.int (2 : Int32)), .val (.int i7), .val (.int i8), .val (.ref b7), .unset, .unset, .unset] [])) target → Steps p.tables e below (T0.setTop (mkF m 39 #[.val (.int i0), .val (.int i1), .val (.int i2), .val (.int i3), .val (.int i4), .val (.int i5), .val (.int (2 : Int32)), .val (.int i7), .val (.int i8), .unset, .unset, .unset, .unset] [])) target := by
  obtain ⟨T7, h7, k7, X7, e7, E7, A7, st7⟩ := newP X0 hx hZ (hw _ (List.mem_of_getElem? (i := 1) rfl)) e0 (g := (mkF m 41 #[.val (.int i0), .val (.int i1), .val (.int i2), .val (.int i3), .val (.int i4), .val (.int i5), .val (.int (2 : Int32)), .val (.int i7), .val (.int i8), .unset, .unset, .unset, .unset] [(.int (2 : Int32))])) rfl (hb hby at_41) rfl (by decide) (cap := 5) (by decide) (by decide) (by decide) (by decide)
  obtain ⟨b7, g7⟩ : ∃ z, z = h0.size := ⟨_, rfl⟩
  rw [← g7] at A7 st7
  have V_b7 : Arv Z h7 b7 k7 .int (2 : Int32) [(.int (0 : Int32)), (.int (0 : Int32))] (.int (0 : Int32)) := (Arv.new A7 (by decide)).pad (pad_rep [] (.int (0 : Int32)) 2)
  have g_b7 : n0 ≤ b7 := Nat.le_trans Z0 (Nat.le_of_eq g7.symm)
  have sz_b7 : h0.size ≤ b7 := (Nat.le_trans (Keep.refl h0 []).1 (Nat.le_of_eq g7.symm))
  have K7 : Keep h0 h7 [] := (Keep.refl h0 []).ext E7
  obtain ⟨cl_b7_54, Ar_b7, q_b7, S_b7, N_b7, H_b7, G_b7⟩ := V_b7
  have hin54 : ¬ ((0 : Int32) < 0 ∨ cl_b7_54.slots.size ≤ ((0 : Int32)).toNatClampNeg) := inb_of S_b7 ⟨by decide, by decide⟩
  obtain ⟨T8, h8, X8, e8, W8, st8⟩ := stI X7 hx hZ e7 Ar_b7 (j := (0 : Int32)) hin54 (g := (mkF m 54 #[.val (.int i0), .val (.int i1), .val (.int i2), .val (.int i3), .val (.int i4), .val (.int i5), .val (.int (2 : Int32)), .val (.int i7), .val (.int i8), .val (.ref b7), .unset, .unset, .unset] [(.int i1), (.int (0 : Int32)), (.ref b7)])) rfl rfl (hb hby at_54)
  have V_b7_8 := Arv.set Ar_b7 q_b7 S_b7 N_b7 H_b7 G_b7 rfl W8 0 rfl (Nat.le_of_ble_eq_true rfl)
  have K8 : Keep h0 h8 [] := K7.wr W8 (Or.inr sz_b7)
  have N8 := Fr.snoc X8 N0 g_b7
  obtain ⟨cl_b7_66, Ar_b7, q_b7, S_b7, N_b7, H_b7, G_b7⟩ := V_b7_8
  have hin66 : ¬ ((1 : Int32) < 0 ∨ cl_b7_66.slots.size ≤ ((1 : Int32)).toNatClampNeg) := inb_of S_b7 ⟨by decide, by decide⟩
  obtain ⟨T9, h9, X9, e9, W9, st9⟩ := stI X8 hx hZ e8 Ar_b7 (j := (1 : Int32)) hin66 (g := (mkF m 66 #[.val (.int i0), .val (.int i1), .val (.int i2), .val (.int i3), .val (.int i4), .val (.int i5), .val (.int (2 : Int32)), .val (.int i7), .val (.int i8), .val (.ref b7), .unset, .unset, .unset] [(.int i8), (.int (1 : Int32)), (.ref b7)])) rfl rfl (hb hby at_66)
  have V_b7_9 := Arv.set Ar_b7 q_b7 S_b7 N_b7 H_b7 G_b7 rfl W9 1 rfl (Nat.le_of_ble_eq_true rfl)
  have K9 : Keep h0 h9 [] := K8.wr W9 (Or.inr sz_b7)
  have N9 := Fr.snoc X9 N8 g_b7
  refine ⟨T9, _, _, b7, k7, X9, e9, N9, K9, g_b7, sz_b7, V_b7_9, fun target kt => ?_⟩
  show Steps p.tables e below (T0.setTop (mkF m 39 #[.val (.int i0), .val (.int i1), .val (.int i2), .val (.int i3), .val (.int i4), .val (.int i5), .val (.int (2 : Int32)), .val (.int i7), .val (.int i8), .unset, .unset, .unset, .unset] [])) _
  refine XS.iload X0.here hx rfl (hb hby at_39) rfl ?_
  show Steps p.tables e below (T0.setTop (mkF m 41 #[.val (.int i0), .val (.int i1), .val (.int i2), .val (.int i3), .val (.int i4), .val (.int i5), .val (.int (2 : Int32)), .val (.int i7), .val (.int i8), .unset, .unset, .unset, .unset] [(.int (2 : Int32))])) _
  refine st7 _ ?_
  show Steps p.tables e below (T7.setTop (mkF m 43 #[.val (.int i0), .val (.int i1), .val (.int i2), .val (.int i3), .val (.int i4), .val (.int i5), .val (.int (2 : Int32)), .val (.int i7), .val (.int i8), .unset, .unset, .unset, .unset] [(.ref b7)])) _
  refine XS.astore X7.here hx rfl (hb hby at_43) rfl rfl (l' := #[.val (.int i0), .val (.int i1), .val (.int i2), .val (.int i3), .val (.int i4), .val (.int i5), .val (.int (2 : Int32)), .val (.int i7), .val (.int i8), .val (.ref b7), .unset, .unset, .unset]) rfl ?_
  show Steps p.tables e below (T7.setTop (mkF m 45 #[.val (.int i0), .val (.int i1), .val (.int i2), .val (.int i3), .val (.int i4), .val (.int i5), .val (.int (2 : Int32)), .val (.int i7), .val (.int i8), .val (.ref b7), .unset, .unset, .unset] [])) _
  refine XS.iload X7.here hx rfl (hb hby at_45) rfl ?_
  show Steps p.tables e below (T7.setTop (mkF m 47 #[.val (.int i0), .val (.int i1), .val (.int i2), .val (.int i3), .val (.int i4), .val (.int i5), .val (.int (2 : Int32)), .val (.int i7), .val (.int i8), .val (.ref b7), .unset, .unset, .unset] [(.int (2 : Int32))])) _
  refine XS.ifNo X7.here hx rfl (hb hby at_47) rfl ((if0 _ _).trans (tlt hc47).2.2.2) ?_
  show Steps p.tables e below (T7.setTop (mkF m 50 #[.val (.int i0), .val (.int i1), .val (.int i2), .val (.int i3), .val (.int i4), .val (.int i5), .val (.int (2 : Int32)), .val (.int i7), .val (.int i8), .val (.ref b7), .unset, .unset, .unset] [])) _
  refine XS.aload X7.here hx rfl (hb hby at_50) rfl rfl ?_
  show Steps p.tables e below (T7.setTop (mkF m 52 #[.val (.int i0), .val (.int i1), .val (.int i2), .val (.int i3), .val (.int i4), .val (.int i5), .val (.int (2 : Int32)), .val (.int i7), .val (.int i8), .val (.ref b7), .unset, .unset, .unset] [(.ref b7)])) _
  refine XS.iconst X7.here hx rfl (hb hby at_52) ?_
  show Steps p.tables e below (T7.setTop (mkF m 53 #[.val (.int i0), .val (.int i1), .val (.int i2), .val (.int i3), .val (.int i4), .val (.int i5), .val (.int (2 : Int32)), .val (.int i7), .val (.int i8), .val (.ref b7), .unset, .unset, .unset] [(.int (0 : Int32)), (.ref b7)])) _
  refine XS.iloadN X7.here hx rfl (hb hby at_53) rfl ?_
  show Steps p.tables e below (T7.setTop (mkF m 54 #[.val (.int i0), .val (.int i1), .val (.int i2), .val (.int i3), .val (.int i4), .val (.int i5), .val (.int (2 : Int32)), .val (.int i7), .val (.int i8), .val (.ref b7), .unset, .unset, .unset] [(.int i1), (.int (0 : Int32)), (.ref b7)])) _
  refine st8 _ ?_
  show Steps p.tables e below (T8.setTop (mkF m 55 #[.val (.int i0), .val (.int i1), .val (.int i2), .val (.int i3), .val (.int i4), .val (.int i5), .val (.int (2 : Int32)), .val (.int i7), .val (.int i8), .val (.ref b7), .unset, .unset, .unset] [])) _
  refine XS.iload X8.here hx rfl (hb hby at_55) rfl ?_
  show Steps p.tables e below (T8.setTop (mkF m 57 #[.val (.int i0), .val (.int i1), .val (.int i2), .val (.int i3), .val (.int i4), .val (.int i5), .val (.int (2 : Int32)), .val (.int i7), .val (.int i8), .val (.ref b7), .unset, .unset, .unset] [(.int (2 : Int32))])) _
  refine XS.iconst X8.here hx rfl (hb hby at_57) ?_
  show Steps p.tables e below (T8.setTop (mkF m 58 #[.val (.int i0), .val (.int i1), .val (.int i2), .val (.int i3), .val (.int i4), .val (.int i5), .val (.int (2 : Int32)), .val (.int i7), .val (.int i8), .val (.ref b7), .unset, .unset, .unset] [(.int (1 : Int32)), (.int (2 : Int32))])) _
  refine XS.icmpNo X8.here hx rfl (hb hby at_58) rfl (tlt hc58).2.2.2 ?_
  show Steps p.tables e below (T8.setTop (mkF m 61 #[.val (.int i0), .val (.int i1), .val (.int i2), .val (.int i3), .val (.int i4), .val (.int i5), .val (.int (2 : Int32)), .val (.int i7), .val (.int i8), .val (.ref b7), .unset, .unset, .unset] [])) _
  refine XS.aload X8.here hx rfl (hb hby at_61) rfl rfl ?_
  show Steps p.tables e below (T8.setTop (mkF m 63 #[.val (.int i0), .val (.int i1), .val (.int i2), .val (.int i3), .val (.int i4), .val (.int i5), .val (.int (2 : Int32)), .val (.int i7), .val (.int i8), .val (.ref b7), .unset, .unset, .unset] [(.ref b7)])) _
  refine XS.iconst X8.here hx rfl (hb hby at_63) ?_
  show Steps p.tables e below (T8.setTop (mkF m 64 #[.val (.int i0), .val (.int i1), .val (.int i2), .val (.int i3), .val (.int i4), .val (.int i5), .val (.int (2 : Int32)), .val (.int i7), .val (.int i8), .val (.ref b7), .unset, .unset, .unset] [(.int (1 : Int32)), (.ref b7)])) _
  refine XS.iload X8.here hx rfl (hb hby at_64) rfl ?_
  show Steps p.tables e below (T8.setTop (mkF m 66 #[.val (.int i0), .val (.int i1), .val (.int i2), .val (.int i3), .val (.int i4), .val (.int i5), .val (.int (2 : Int32)), .val (.int i7), .val (.int i8), .val (.ref b7), .unset, .unset, .unset] [(.int i8), (.int (1 : Int32)), (.ref b7)])) _
  refine st9 _ ?_
  show Steps p.tables e below (T9.setTop (mkF m 67 #[.val (.int i0), .val (.int i1), .val (.int i2), .val (.int i3), .val (.int i4), .val (.int i5), .val (.int (2 : Int32)), .val (.int i7), .val (.int i8), .val (.ref b7), .unset, .unset, .unset] [])) _
  refine XS.iload X9.here hx rfl (hb hby at_67) rfl ?_
  show Steps p.tables e below (T9.setTop (mkF m 69 #[.val (.int i0), .val (.int i1), .val (.int i2), .val (.int i3), .val (.int i4), .val (.int i5), .val (.int (2 : Int32)), .val (.int i7), .val (.int i8), .val (.ref b7), .unset, .unset, .unset] [(.int (2 : Int32))])) _
  refine XS.iconst X9.here hx rfl (hb hby at_69) ?_
  show Steps p.tables e below (T9.setTop (mkF m 70 #[.val (.int i0), .val (.int i1), .val (.int i2), .val (.int i3), .val (.int i4), .val (.int i5), .val (.int (2 : Int32)), .val (.int i7), .val (.int i8), .val (.ref b7), .unset, .unset, .unset] [(.int (2 : Int32)), (.int (2 : Int32))])) _
  refine XS.icmpYes X9.here hx rfl (pc0 := 70) (pc' := 78) rfl (hb hby at_70) rfl (flt hc70).2.2.2 (by decide) (by decide) ?_
  show Steps p.tables e below (T9.setTop (mkF m 78 #[.val (.int i0), .val (.int i1), .val (.int i2), .val (.int i3), .val (.int i4), .val (.int i5), .val (.int (2 : Int32)), .val (.int i7), .val (.int i8), .val (.ref b7), .unset, .unset, .unset] [])) _
  refine XS.iload X9.here hx rfl (hb hby at_78) rfl ?_
  show Steps p.tables e below (T9.setTop (mkF m 80 #[.val (.int i0), .val (.int i1), .val (.int i2), .val (.int i3), .val (.int i4), .val (.int i5), .val (.int (2 : Int32)), .val (.int i7), .val (.int i8), .val (.ref b7), .unset, .unset, .unset] [(.int (2 : Int32))])) _
  refine XS.iconst X9.here hx rfl (hb hby at_80) ?_
  show Steps p.tables e below (T9.setTop (mkF m 81 #[.val (.int i0), .val (.int i1), .val (.int i2), .val (.int i3), .val (.int i4), .val (.int i5), .val (.int (2 : Int32)), .val (.int i7), .val (.int i8), .val (.ref b7), .unset, .unset, .unset] [(.int (3 : Int32)), (.int (2 : Int32))])) _
  refine XS.icmpYes X9.here hx rfl (pc0 := 81) (pc' := 90) rfl (hb hby at_81) rfl (flt hc81).2.2.2 (by decide) (by decide) ?_
  show Steps p.tables e below (T9.setTop (mkF m 90 #[.val (.int i0), .val (.int i1), .val (.int i2), .val (.int i3), .val (.int i4), .val (.int i5), .val (.int (2 : Int32)), .val (.int i7), .val (.int i8), .val (.ref b7), .unset, .unset, .unset] [])) _
  refine XS.iload X9.here hx rfl (hb hby at_90) rfl ?_
  show Steps p.tables e below (T9.setTop (mkF m 92 #[.val (.int i0), .val (.int i1), .val (.int i2), .val (.int i3), .val (.int i4), .val (.int i5), .val (.int (2 : Int32)), .val (.int i7), .val (.int i8), .val (.ref b7), .unset, .unset, .unset] [(.int (2 : Int32))])) _
  refine XS.iconst X9.here hx rfl (hb hby at_92) ?_
  show Steps p.tables e below (T9.setTop (mkF m 93 #[.val (.int i0), .val (.int i1), .val (.int i2), .val (.int i3), .val (.int i4), .val (.int i5), .val (.int (2 : Int32)), .val (.int i7), .val (.int i8), .val (.ref b7), .unset, .unset, .unset] [(.int (4 : Int32)), (.int (2 : Int32))])) _
  refine XS.icmpYes X9.here hx rfl (pc0 := 93) (pc' := 102) rfl (hb hby at_93) rfl (flt hc93).2.2.2 (by decide) (by decide) ?_
  exact kt
set_option maxRecDepth 65536 in
set_option maxHeartbeats 40000000 in
theorem sgB3 {p : Program} {l : Launch} {e : Env} {s : State} {m : MethodId} {args : Array Value} {below : List Frame} {meth : Method} {c : Code} {T0 : State} {locs : List Loc} {Z : State} {a0 : Array Value} {h0 : Heap} {n0 : Nat} (i0 : Int32) (i1 : Int32) (i2 : Int32) (i3 : Int32) (i4 : Int32) (i5 : Int32) (i7 : Int32) (i8 : Int32)
    (X0 : Stand p l e room_1 s m args below meth c T0 locs 0 0) (hx : p.tables.exec = Jvm.exec) (hZ : Z.Warmed39 s.vm) (hw : ∀ d ∈ tables_1, d.before a0 Z = true) (hby : c.code = code) (hml : c.maxLocals = 13) (hown : s.vm.findClass "com/example/restless_reasoner/restlessreasoner/engine/tableau/PremisesIsEqualityPinLaw" = some m.cls) (e0 : T0.heap = h0) (Z0 : n0 ≤ h0.size) (N0 : Fr n0 locs) (hc47 : (0 : Int32) < (3 : Int32)) (hc58 : (1 : Int32) < (3 : Int32)) (hc70 : (2 : Int32) < (3 : Int32)) (hc81 : ¬ ((3 : Int32) < (3 : Int32))) (hc93 : ¬ ((4 : Int32) < (3 : Int32))) :
    ∃ (T' : State) (h' : Heap) (locs' : List Loc) (b7 : Addr) (k7 : ClassId), Stand p l e room_1 s m args below meth c T' locs' 1 5 ∧ T'.heap = h' ∧ Fr n0 locs' ∧ Keep h0 h' [] ∧ n0 ≤ b7 ∧ h0.size ≤ b7 ∧ Arv Z h' b7 k7 .int (3 : Int32) [(.int i1), (.int i8), (.int i3)] (.int (0 : Int32)) ∧
      ∀ target, Steps p.tables e below (T'.setTop (mkF m 102 #[.val (.int i0), .val (.int i1), .val (.int i2), .val (.int i3), .val (.int i4), .val (.int i5), .val (.int (3 : Int32)), .val (.int i7), .val (.int i8), .val (.ref b7), .unset, .unset, .unset] [])) target → Steps p.tables e below (T0.setTop (mkF m 39 #[.val (.int i0), .val (.int i1), .val (.int i2), .val (.int i3), .val (.int i4), .val (.int i5), .val (.int (3 : Int32)), .val (.int i7), .val (.int i8), .unset, .unset, .unset, .unset] [])) target := by
  obtain ⟨T7, h7, k7, X7, e7, E7, A7, st7⟩ := newP X0 hx hZ (hw _ (List.mem_of_getElem? (i := 1) rfl)) e0 (g := (mkF m 41 #[.val (.int i0), .val (.int i1), .val (.int i2), .val (.int i3), .val (.int i4), .val (.int i5), .val (.int (3 : Int32)), .val (.int i7), .val (.int i8), .unset, .unset, .unset, .unset] [(.int (3 : Int32))])) rfl (hb hby at_41) rfl (by decide) (cap := 5) (by decide) (by decide) (by decide) (by decide)
  obtain ⟨b7, g7⟩ : ∃ z, z = h0.size := ⟨_, rfl⟩
  rw [← g7] at A7 st7
  have V_b7 : Arv Z h7 b7 k7 .int (3 : Int32) [(.int (0 : Int32)), (.int (0 : Int32)), (.int (0 : Int32))] (.int (0 : Int32)) := (Arv.new A7 (by decide)).pad (pad_rep [] (.int (0 : Int32)) 3)
  have g_b7 : n0 ≤ b7 := Nat.le_trans Z0 (Nat.le_of_eq g7.symm)
  have sz_b7 : h0.size ≤ b7 := (Nat.le_trans (Keep.refl h0 []).1 (Nat.le_of_eq g7.symm))
  have K7 : Keep h0 h7 [] := (Keep.refl h0 []).ext E7
  obtain ⟨cl_b7_54, Ar_b7, q_b7, S_b7, N_b7, H_b7, G_b7⟩ := V_b7
  have hin54 : ¬ ((0 : Int32) < 0 ∨ cl_b7_54.slots.size ≤ ((0 : Int32)).toNatClampNeg) := inb_of S_b7 ⟨by decide, by decide⟩
  obtain ⟨T8, h8, X8, e8, W8, st8⟩ := stI X7 hx hZ e7 Ar_b7 (j := (0 : Int32)) hin54 (g := (mkF m 54 #[.val (.int i0), .val (.int i1), .val (.int i2), .val (.int i3), .val (.int i4), .val (.int i5), .val (.int (3 : Int32)), .val (.int i7), .val (.int i8), .val (.ref b7), .unset, .unset, .unset] [(.int i1), (.int (0 : Int32)), (.ref b7)])) rfl rfl (hb hby at_54)
  have V_b7_8 := Arv.set Ar_b7 q_b7 S_b7 N_b7 H_b7 G_b7 rfl W8 0 rfl (Nat.le_of_ble_eq_true rfl)
  have K8 : Keep h0 h8 [] := K7.wr W8 (Or.inr sz_b7)
  have N8 := Fr.snoc X8 N0 g_b7
  obtain ⟨cl_b7_66, Ar_b7, q_b7, S_b7, N_b7, H_b7, G_b7⟩ := V_b7_8
  have hin66 : ¬ ((1 : Int32) < 0 ∨ cl_b7_66.slots.size ≤ ((1 : Int32)).toNatClampNeg) := inb_of S_b7 ⟨by decide, by decide⟩
  obtain ⟨T9, h9, X9, e9, W9, st9⟩ := stI X8 hx hZ e8 Ar_b7 (j := (1 : Int32)) hin66 (g := (mkF m 66 #[.val (.int i0), .val (.int i1), .val (.int i2), .val (.int i3), .val (.int i4), .val (.int i5), .val (.int (3 : Int32)), .val (.int i7), .val (.int i8), .val (.ref b7), .unset, .unset, .unset] [(.int i8), (.int (1 : Int32)), (.ref b7)])) rfl rfl (hb hby at_66)
  have V_b7_9 := Arv.set Ar_b7 q_b7 S_b7 N_b7 H_b7 G_b7 rfl W9 1 rfl (Nat.le_of_ble_eq_true rfl)
  have K9 : Keep h0 h9 [] := K8.wr W9 (Or.inr sz_b7)
  have N9 := Fr.snoc X9 N8 g_b7
  obtain ⟨cl_b7_77, Ar_b7, q_b7, S_b7, N_b7, H_b7, G_b7⟩ := V_b7_9
  have hin77 : ¬ ((2 : Int32) < 0 ∨ cl_b7_77.slots.size ≤ ((2 : Int32)).toNatClampNeg) := inb_of S_b7 ⟨by decide, by decide⟩
  obtain ⟨T10, h10, X10, e10, W10, st10⟩ := stI X9 hx hZ e9 Ar_b7 (j := (2 : Int32)) hin77 (g := (mkF m 77 #[.val (.int i0), .val (.int i1), .val (.int i2), .val (.int i3), .val (.int i4), .val (.int i5), .val (.int (3 : Int32)), .val (.int i7), .val (.int i8), .val (.ref b7), .unset, .unset, .unset] [(.int i3), (.int (2 : Int32)), (.ref b7)])) rfl rfl (hb hby at_77)
  have V_b7_10 := Arv.set Ar_b7 q_b7 S_b7 N_b7 H_b7 G_b7 rfl W10 2 rfl (Nat.le_of_ble_eq_true rfl)
  have K10 : Keep h0 h10 [] := K9.wr W10 (Or.inr sz_b7)
  have N10 := Fr.snoc X10 N9 g_b7
  refine ⟨T10, _, _, b7, k7, X10, e10, N10, K10, g_b7, sz_b7, V_b7_10, fun target kt => ?_⟩
  show Steps p.tables e below (T0.setTop (mkF m 39 #[.val (.int i0), .val (.int i1), .val (.int i2), .val (.int i3), .val (.int i4), .val (.int i5), .val (.int (3 : Int32)), .val (.int i7), .val (.int i8), .unset, .unset, .unset, .unset] [])) _
  refine XS.iload X0.here hx rfl (hb hby at_39) rfl ?_
  show Steps p.tables e below (T0.setTop (mkF m 41 #[.val (.int i0), .val (.int i1), .val (.int i2), .val (.int i3), .val (.int i4), .val (.int i5), .val (.int (3 : Int32)), .val (.int i7), .val (.int i8), .unset, .unset, .unset, .unset] [(.int (3 : Int32))])) _
  refine st7 _ ?_
  show Steps p.tables e below (T7.setTop (mkF m 43 #[.val (.int i0), .val (.int i1), .val (.int i2), .val (.int i3), .val (.int i4), .val (.int i5), .val (.int (3 : Int32)), .val (.int i7), .val (.int i8), .unset, .unset, .unset, .unset] [(.ref b7)])) _
  refine XS.astore X7.here hx rfl (hb hby at_43) rfl rfl (l' := #[.val (.int i0), .val (.int i1), .val (.int i2), .val (.int i3), .val (.int i4), .val (.int i5), .val (.int (3 : Int32)), .val (.int i7), .val (.int i8), .val (.ref b7), .unset, .unset, .unset]) rfl ?_
  show Steps p.tables e below (T7.setTop (mkF m 45 #[.val (.int i0), .val (.int i1), .val (.int i2), .val (.int i3), .val (.int i4), .val (.int i5), .val (.int (3 : Int32)), .val (.int i7), .val (.int i8), .val (.ref b7), .unset, .unset, .unset] [])) _
  refine XS.iload X7.here hx rfl (hb hby at_45) rfl ?_
  show Steps p.tables e below (T7.setTop (mkF m 47 #[.val (.int i0), .val (.int i1), .val (.int i2), .val (.int i3), .val (.int i4), .val (.int i5), .val (.int (3 : Int32)), .val (.int i7), .val (.int i8), .val (.ref b7), .unset, .unset, .unset] [(.int (3 : Int32))])) _
  refine XS.ifNo X7.here hx rfl (hb hby at_47) rfl ((if0 _ _).trans (tlt hc47).2.2.2) ?_
  show Steps p.tables e below (T7.setTop (mkF m 50 #[.val (.int i0), .val (.int i1), .val (.int i2), .val (.int i3), .val (.int i4), .val (.int i5), .val (.int (3 : Int32)), .val (.int i7), .val (.int i8), .val (.ref b7), .unset, .unset, .unset] [])) _
  refine XS.aload X7.here hx rfl (hb hby at_50) rfl rfl ?_
  show Steps p.tables e below (T7.setTop (mkF m 52 #[.val (.int i0), .val (.int i1), .val (.int i2), .val (.int i3), .val (.int i4), .val (.int i5), .val (.int (3 : Int32)), .val (.int i7), .val (.int i8), .val (.ref b7), .unset, .unset, .unset] [(.ref b7)])) _
  refine XS.iconst X7.here hx rfl (hb hby at_52) ?_
  show Steps p.tables e below (T7.setTop (mkF m 53 #[.val (.int i0), .val (.int i1), .val (.int i2), .val (.int i3), .val (.int i4), .val (.int i5), .val (.int (3 : Int32)), .val (.int i7), .val (.int i8), .val (.ref b7), .unset, .unset, .unset] [(.int (0 : Int32)), (.ref b7)])) _
  refine XS.iloadN X7.here hx rfl (hb hby at_53) rfl ?_
  show Steps p.tables e below (T7.setTop (mkF m 54 #[.val (.int i0), .val (.int i1), .val (.int i2), .val (.int i3), .val (.int i4), .val (.int i5), .val (.int (3 : Int32)), .val (.int i7), .val (.int i8), .val (.ref b7), .unset, .unset, .unset] [(.int i1), (.int (0 : Int32)), (.ref b7)])) _
  refine st8 _ ?_
  show Steps p.tables e below (T8.setTop (mkF m 55 #[.val (.int i0), .val (.int i1), .val (.int i2), .val (.int i3), .val (.int i4), .val (.int i5), .val (.int (3 : Int32)), .val (.int i7), .val (.int i8), .val (.ref b7), .unset, .unset, .unset] [])) _
  refine XS.iload X8.here hx rfl (hb hby at_55) rfl ?_
  show Steps p.tables e below (T8.setTop (mkF m 57 #[.val (.int i0), .val (.int i1), .val (.int i2), .val (.int i3), .val (.int i4), .val (.int i5), .val (.int (3 : Int32)), .val (.int i7), .val (.int i8), .val (.ref b7), .unset, .unset, .unset] [(.int (3 : Int32))])) _
  refine XS.iconst X8.here hx rfl (hb hby at_57) ?_
  show Steps p.tables e below (T8.setTop (mkF m 58 #[.val (.int i0), .val (.int i1), .val (.int i2), .val (.int i3), .val (.int i4), .val (.int i5), .val (.int (3 : Int32)), .val (.int i7), .val (.int i8), .val (.ref b7), .unset, .unset, .unset] [(.int (1 : Int32)), (.int (3 : Int32))])) _
  refine XS.icmpNo X8.here hx rfl (hb hby at_58) rfl (tlt hc58).2.2.2 ?_
  show Steps p.tables e below (T8.setTop (mkF m 61 #[.val (.int i0), .val (.int i1), .val (.int i2), .val (.int i3), .val (.int i4), .val (.int i5), .val (.int (3 : Int32)), .val (.int i7), .val (.int i8), .val (.ref b7), .unset, .unset, .unset] [])) _
  refine XS.aload X8.here hx rfl (hb hby at_61) rfl rfl ?_
  show Steps p.tables e below (T8.setTop (mkF m 63 #[.val (.int i0), .val (.int i1), .val (.int i2), .val (.int i3), .val (.int i4), .val (.int i5), .val (.int (3 : Int32)), .val (.int i7), .val (.int i8), .val (.ref b7), .unset, .unset, .unset] [(.ref b7)])) _
  refine XS.iconst X8.here hx rfl (hb hby at_63) ?_
  show Steps p.tables e below (T8.setTop (mkF m 64 #[.val (.int i0), .val (.int i1), .val (.int i2), .val (.int i3), .val (.int i4), .val (.int i5), .val (.int (3 : Int32)), .val (.int i7), .val (.int i8), .val (.ref b7), .unset, .unset, .unset] [(.int (1 : Int32)), (.ref b7)])) _
  refine XS.iload X8.here hx rfl (hb hby at_64) rfl ?_
  show Steps p.tables e below (T8.setTop (mkF m 66 #[.val (.int i0), .val (.int i1), .val (.int i2), .val (.int i3), .val (.int i4), .val (.int i5), .val (.int (3 : Int32)), .val (.int i7), .val (.int i8), .val (.ref b7), .unset, .unset, .unset] [(.int i8), (.int (1 : Int32)), (.ref b7)])) _
  refine st9 _ ?_
  show Steps p.tables e below (T9.setTop (mkF m 67 #[.val (.int i0), .val (.int i1), .val (.int i2), .val (.int i3), .val (.int i4), .val (.int i5), .val (.int (3 : Int32)), .val (.int i7), .val (.int i8), .val (.ref b7), .unset, .unset, .unset] [])) _
  refine XS.iload X9.here hx rfl (hb hby at_67) rfl ?_
  show Steps p.tables e below (T9.setTop (mkF m 69 #[.val (.int i0), .val (.int i1), .val (.int i2), .val (.int i3), .val (.int i4), .val (.int i5), .val (.int (3 : Int32)), .val (.int i7), .val (.int i8), .val (.ref b7), .unset, .unset, .unset] [(.int (3 : Int32))])) _
  refine XS.iconst X9.here hx rfl (hb hby at_69) ?_
  show Steps p.tables e below (T9.setTop (mkF m 70 #[.val (.int i0), .val (.int i1), .val (.int i2), .val (.int i3), .val (.int i4), .val (.int i5), .val (.int (3 : Int32)), .val (.int i7), .val (.int i8), .val (.ref b7), .unset, .unset, .unset] [(.int (2 : Int32)), (.int (3 : Int32))])) _
  refine XS.icmpNo X9.here hx rfl (hb hby at_70) rfl (tlt hc70).2.2.2 ?_
  show Steps p.tables e below (T9.setTop (mkF m 73 #[.val (.int i0), .val (.int i1), .val (.int i2), .val (.int i3), .val (.int i4), .val (.int i5), .val (.int (3 : Int32)), .val (.int i7), .val (.int i8), .val (.ref b7), .unset, .unset, .unset] [])) _
  refine XS.aload X9.here hx rfl (hb hby at_73) rfl rfl ?_
  show Steps p.tables e below (T9.setTop (mkF m 75 #[.val (.int i0), .val (.int i1), .val (.int i2), .val (.int i3), .val (.int i4), .val (.int i5), .val (.int (3 : Int32)), .val (.int i7), .val (.int i8), .val (.ref b7), .unset, .unset, .unset] [(.ref b7)])) _
  refine XS.iconst X9.here hx rfl (hb hby at_75) ?_
  show Steps p.tables e below (T9.setTop (mkF m 76 #[.val (.int i0), .val (.int i1), .val (.int i2), .val (.int i3), .val (.int i4), .val (.int i5), .val (.int (3 : Int32)), .val (.int i7), .val (.int i8), .val (.ref b7), .unset, .unset, .unset] [(.int (2 : Int32)), (.ref b7)])) _
  refine XS.iloadN X9.here hx rfl (hb hby at_76) rfl ?_
  show Steps p.tables e below (T9.setTop (mkF m 77 #[.val (.int i0), .val (.int i1), .val (.int i2), .val (.int i3), .val (.int i4), .val (.int i5), .val (.int (3 : Int32)), .val (.int i7), .val (.int i8), .val (.ref b7), .unset, .unset, .unset] [(.int i3), (.int (2 : Int32)), (.ref b7)])) _
  refine st10 _ ?_
  show Steps p.tables e below (T10.setTop (mkF m 78 #[.val (.int i0), .val (.int i1), .val (.int i2), .val (.int i3), .val (.int i4), .val (.int i5), .val (.int (3 : Int32)), .val (.int i7), .val (.int i8), .val (.ref b7), .unset, .unset, .unset] [])) _
  refine XS.iload X10.here hx rfl (hb hby at_78) rfl ?_
  show Steps p.tables e below (T10.setTop (mkF m 80 #[.val (.int i0), .val (.int i1), .val (.int i2), .val (.int i3), .val (.int i4), .val (.int i5), .val (.int (3 : Int32)), .val (.int i7), .val (.int i8), .val (.ref b7), .unset, .unset, .unset] [(.int (3 : Int32))])) _
  refine XS.iconst X10.here hx rfl (hb hby at_80) ?_
  show Steps p.tables e below (T10.setTop (mkF m 81 #[.val (.int i0), .val (.int i1), .val (.int i2), .val (.int i3), .val (.int i4), .val (.int i5), .val (.int (3 : Int32)), .val (.int i7), .val (.int i8), .val (.ref b7), .unset, .unset, .unset] [(.int (3 : Int32)), (.int (3 : Int32))])) _
  refine XS.icmpYes X10.here hx rfl (pc0 := 81) (pc' := 90) rfl (hb hby at_81) rfl (flt hc81).2.2.2 (by decide) (by decide) ?_
  show Steps p.tables e below (T10.setTop (mkF m 90 #[.val (.int i0), .val (.int i1), .val (.int i2), .val (.int i3), .val (.int i4), .val (.int i5), .val (.int (3 : Int32)), .val (.int i7), .val (.int i8), .val (.ref b7), .unset, .unset, .unset] [])) _
  refine XS.iload X10.here hx rfl (hb hby at_90) rfl ?_
  show Steps p.tables e below (T10.setTop (mkF m 92 #[.val (.int i0), .val (.int i1), .val (.int i2), .val (.int i3), .val (.int i4), .val (.int i5), .val (.int (3 : Int32)), .val (.int i7), .val (.int i8), .val (.ref b7), .unset, .unset, .unset] [(.int (3 : Int32))])) _
  refine XS.iconst X10.here hx rfl (hb hby at_92) ?_
  show Steps p.tables e below (T10.setTop (mkF m 93 #[.val (.int i0), .val (.int i1), .val (.int i2), .val (.int i3), .val (.int i4), .val (.int i5), .val (.int (3 : Int32)), .val (.int i7), .val (.int i8), .val (.ref b7), .unset, .unset, .unset] [(.int (4 : Int32)), (.int (3 : Int32))])) _
  refine XS.icmpYes X10.here hx rfl (pc0 := 93) (pc' := 102) rfl (hb hby at_93) rfl (flt hc93).2.2.2 (by decide) (by decide) ?_
  exact kt
set_option maxRecDepth 65536 in
set_option maxHeartbeats 40000000 in
theorem sgB4 {p : Program} {l : Launch} {e : Env} {s : State} {m : MethodId} {args : Array Value} {below : List Frame} {meth : Method} {c : Code} {T0 : State} {locs : List Loc} {Z : State} {a0 : Array Value} {h0 : Heap} {n0 : Nat} (i0 : Int32) (i1 : Int32) (i2 : Int32) (i3 : Int32) (i4 : Int32) (i5 : Int32) (i7 : Int32) (i8 : Int32)
    (X0 : Stand p l e room_1 s m args below meth c T0 locs 0 0) (hx : p.tables.exec = Jvm.exec) (hZ : Z.Warmed39 s.vm) (hw : ∀ d ∈ tables_1, d.before a0 Z = true) (hby : c.code = code) (hml : c.maxLocals = 13) (hown : s.vm.findClass "com/example/restless_reasoner/restlessreasoner/engine/tableau/PremisesIsEqualityPinLaw" = some m.cls) (e0 : T0.heap = h0) (Z0 : n0 ≤ h0.size) (N0 : Fr n0 locs) (hc47 : (0 : Int32) < (4 : Int32)) (hc58 : (1 : Int32) < (4 : Int32)) (hc70 : (2 : Int32) < (4 : Int32)) (hc81 : (3 : Int32) < (4 : Int32)) (hc93 : ¬ ((4 : Int32) < (4 : Int32))) :
    ∃ (T' : State) (h' : Heap) (locs' : List Loc) (b7 : Addr) (k7 : ClassId), Stand p l e room_1 s m args below meth c T' locs' 1 5 ∧ T'.heap = h' ∧ Fr n0 locs' ∧ Keep h0 h' [] ∧ n0 ≤ b7 ∧ h0.size ≤ b7 ∧ Arv Z h' b7 k7 .int (4 : Int32) [(.int i1), (.int i8), (.int i3), (.int i4)] (.int (0 : Int32)) ∧
      ∀ target, Steps p.tables e below (T'.setTop (mkF m 102 #[.val (.int i0), .val (.int i1), .val (.int i2), .val (.int i3), .val (.int i4), .val (.int i5), .val (.int (4 : Int32)), .val (.int i7), .val (.int i8), .val (.ref b7), .unset, .unset, .unset] [])) target → Steps p.tables e below (T0.setTop (mkF m 39 #[.val (.int i0), .val (.int i1), .val (.int i2), .val (.int i3), .val (.int i4), .val (.int i5), .val (.int (4 : Int32)), .val (.int i7), .val (.int i8), .unset, .unset, .unset, .unset] [])) target := by
  obtain ⟨T7, h7, k7, X7, e7, E7, A7, st7⟩ := newP X0 hx hZ (hw _ (List.mem_of_getElem? (i := 1) rfl)) e0 (g := (mkF m 41 #[.val (.int i0), .val (.int i1), .val (.int i2), .val (.int i3), .val (.int i4), .val (.int i5), .val (.int (4 : Int32)), .val (.int i7), .val (.int i8), .unset, .unset, .unset, .unset] [(.int (4 : Int32))])) rfl (hb hby at_41) rfl (by decide) (cap := 5) (by decide) (by decide) (by decide) (by decide)
  obtain ⟨b7, g7⟩ : ∃ z, z = h0.size := ⟨_, rfl⟩
  rw [← g7] at A7 st7
  have V_b7 : Arv Z h7 b7 k7 .int (4 : Int32) [(.int (0 : Int32)), (.int (0 : Int32)), (.int (0 : Int32)), (.int (0 : Int32))] (.int (0 : Int32)) := (Arv.new A7 (by decide)).pad (pad_rep [] (.int (0 : Int32)) 4)
  have g_b7 : n0 ≤ b7 := Nat.le_trans Z0 (Nat.le_of_eq g7.symm)
  have sz_b7 : h0.size ≤ b7 := (Nat.le_trans (Keep.refl h0 []).1 (Nat.le_of_eq g7.symm))
  have K7 : Keep h0 h7 [] := (Keep.refl h0 []).ext E7
  obtain ⟨cl_b7_54, Ar_b7, q_b7, S_b7, N_b7, H_b7, G_b7⟩ := V_b7
  have hin54 : ¬ ((0 : Int32) < 0 ∨ cl_b7_54.slots.size ≤ ((0 : Int32)).toNatClampNeg) := inb_of S_b7 ⟨by decide, by decide⟩
  obtain ⟨T8, h8, X8, e8, W8, st8⟩ := stI X7 hx hZ e7 Ar_b7 (j := (0 : Int32)) hin54 (g := (mkF m 54 #[.val (.int i0), .val (.int i1), .val (.int i2), .val (.int i3), .val (.int i4), .val (.int i5), .val (.int (4 : Int32)), .val (.int i7), .val (.int i8), .val (.ref b7), .unset, .unset, .unset] [(.int i1), (.int (0 : Int32)), (.ref b7)])) rfl rfl (hb hby at_54)
  have V_b7_8 := Arv.set Ar_b7 q_b7 S_b7 N_b7 H_b7 G_b7 rfl W8 0 rfl (Nat.le_of_ble_eq_true rfl)
  have K8 : Keep h0 h8 [] := K7.wr W8 (Or.inr sz_b7)
  have N8 := Fr.snoc X8 N0 g_b7
  obtain ⟨cl_b7_66, Ar_b7, q_b7, S_b7, N_b7, H_b7, G_b7⟩ := V_b7_8
  have hin66 : ¬ ((1 : Int32) < 0 ∨ cl_b7_66.slots.size ≤ ((1 : Int32)).toNatClampNeg) := inb_of S_b7 ⟨by decide, by decide⟩
  obtain ⟨T9, h9, X9, e9, W9, st9⟩ := stI X8 hx hZ e8 Ar_b7 (j := (1 : Int32)) hin66 (g := (mkF m 66 #[.val (.int i0), .val (.int i1), .val (.int i2), .val (.int i3), .val (.int i4), .val (.int i5), .val (.int (4 : Int32)), .val (.int i7), .val (.int i8), .val (.ref b7), .unset, .unset, .unset] [(.int i8), (.int (1 : Int32)), (.ref b7)])) rfl rfl (hb hby at_66)
  have V_b7_9 := Arv.set Ar_b7 q_b7 S_b7 N_b7 H_b7 G_b7 rfl W9 1 rfl (Nat.le_of_ble_eq_true rfl)
  have K9 : Keep h0 h9 [] := K8.wr W9 (Or.inr sz_b7)
  have N9 := Fr.snoc X9 N8 g_b7
  obtain ⟨cl_b7_77, Ar_b7, q_b7, S_b7, N_b7, H_b7, G_b7⟩ := V_b7_9
  have hin77 : ¬ ((2 : Int32) < 0 ∨ cl_b7_77.slots.size ≤ ((2 : Int32)).toNatClampNeg) := inb_of S_b7 ⟨by decide, by decide⟩
  obtain ⟨T10, h10, X10, e10, W10, st10⟩ := stI X9 hx hZ e9 Ar_b7 (j := (2 : Int32)) hin77 (g := (mkF m 77 #[.val (.int i0), .val (.int i1), .val (.int i2), .val (.int i3), .val (.int i4), .val (.int i5), .val (.int (4 : Int32)), .val (.int i7), .val (.int i8), .val (.ref b7), .unset, .unset, .unset] [(.int i3), (.int (2 : Int32)), (.ref b7)])) rfl rfl (hb hby at_77)
  have V_b7_10 := Arv.set Ar_b7 q_b7 S_b7 N_b7 H_b7 G_b7 rfl W10 2 rfl (Nat.le_of_ble_eq_true rfl)
  have K10 : Keep h0 h10 [] := K9.wr W10 (Or.inr sz_b7)
  have N10 := Fr.snoc X10 N9 g_b7
  obtain ⟨cl_b7_89, Ar_b7, q_b7, S_b7, N_b7, H_b7, G_b7⟩ := V_b7_10
  have hin89 : ¬ ((3 : Int32) < 0 ∨ cl_b7_89.slots.size ≤ ((3 : Int32)).toNatClampNeg) := inb_of S_b7 ⟨by decide, by decide⟩
  obtain ⟨T11, h11, X11, e11, W11, st11⟩ := stI X10 hx hZ e10 Ar_b7 (j := (3 : Int32)) hin89 (g := (mkF m 89 #[.val (.int i0), .val (.int i1), .val (.int i2), .val (.int i3), .val (.int i4), .val (.int i5), .val (.int (4 : Int32)), .val (.int i7), .val (.int i8), .val (.ref b7), .unset, .unset, .unset] [(.int i4), (.int (3 : Int32)), (.ref b7)])) rfl rfl (hb hby at_89)
  have V_b7_11 := Arv.set Ar_b7 q_b7 S_b7 N_b7 H_b7 G_b7 rfl W11 3 rfl (Nat.le_of_ble_eq_true rfl)
  have K11 : Keep h0 h11 [] := K10.wr W11 (Or.inr sz_b7)
  have N11 := Fr.snoc X11 N10 g_b7
  refine ⟨T11, _, _, b7, k7, X11, e11, N11, K11, g_b7, sz_b7, V_b7_11, fun target kt => ?_⟩
  show Steps p.tables e below (T0.setTop (mkF m 39 #[.val (.int i0), .val (.int i1), .val (.int i2), .val (.int i3), .val (.int i4), .val (.int i5), .val (.int (4 : Int32)), .val (.int i7), .val (.int i8), .unset, .unset, .unset, .unset] [])) _
  refine XS.iload X0.here hx rfl (hb hby at_39) rfl ?_
  show Steps p.tables e below (T0.setTop (mkF m 41 #[.val (.int i0), .val (.int i1), .val (.int i2), .val (.int i3), .val (.int i4), .val (.int i5), .val (.int (4 : Int32)), .val (.int i7), .val (.int i8), .unset, .unset, .unset, .unset] [(.int (4 : Int32))])) _
  refine st7 _ ?_
  show Steps p.tables e below (T7.setTop (mkF m 43 #[.val (.int i0), .val (.int i1), .val (.int i2), .val (.int i3), .val (.int i4), .val (.int i5), .val (.int (4 : Int32)), .val (.int i7), .val (.int i8), .unset, .unset, .unset, .unset] [(.ref b7)])) _
  refine XS.astore X7.here hx rfl (hb hby at_43) rfl rfl (l' := #[.val (.int i0), .val (.int i1), .val (.int i2), .val (.int i3), .val (.int i4), .val (.int i5), .val (.int (4 : Int32)), .val (.int i7), .val (.int i8), .val (.ref b7), .unset, .unset, .unset]) rfl ?_
  show Steps p.tables e below (T7.setTop (mkF m 45 #[.val (.int i0), .val (.int i1), .val (.int i2), .val (.int i3), .val (.int i4), .val (.int i5), .val (.int (4 : Int32)), .val (.int i7), .val (.int i8), .val (.ref b7), .unset, .unset, .unset] [])) _
  refine XS.iload X7.here hx rfl (hb hby at_45) rfl ?_
  show Steps p.tables e below (T7.setTop (mkF m 47 #[.val (.int i0), .val (.int i1), .val (.int i2), .val (.int i3), .val (.int i4), .val (.int i5), .val (.int (4 : Int32)), .val (.int i7), .val (.int i8), .val (.ref b7), .unset, .unset, .unset] [(.int (4 : Int32))])) _
  refine XS.ifNo X7.here hx rfl (hb hby at_47) rfl ((if0 _ _).trans (tlt hc47).2.2.2) ?_
  show Steps p.tables e below (T7.setTop (mkF m 50 #[.val (.int i0), .val (.int i1), .val (.int i2), .val (.int i3), .val (.int i4), .val (.int i5), .val (.int (4 : Int32)), .val (.int i7), .val (.int i8), .val (.ref b7), .unset, .unset, .unset] [])) _
  refine XS.aload X7.here hx rfl (hb hby at_50) rfl rfl ?_
  show Steps p.tables e below (T7.setTop (mkF m 52 #[.val (.int i0), .val (.int i1), .val (.int i2), .val (.int i3), .val (.int i4), .val (.int i5), .val (.int (4 : Int32)), .val (.int i7), .val (.int i8), .val (.ref b7), .unset, .unset, .unset] [(.ref b7)])) _
  refine XS.iconst X7.here hx rfl (hb hby at_52) ?_
  show Steps p.tables e below (T7.setTop (mkF m 53 #[.val (.int i0), .val (.int i1), .val (.int i2), .val (.int i3), .val (.int i4), .val (.int i5), .val (.int (4 : Int32)), .val (.int i7), .val (.int i8), .val (.ref b7), .unset, .unset, .unset] [(.int (0 : Int32)), (.ref b7)])) _
  refine XS.iloadN X7.here hx rfl (hb hby at_53) rfl ?_
  show Steps p.tables e below (T7.setTop (mkF m 54 #[.val (.int i0), .val (.int i1), .val (.int i2), .val (.int i3), .val (.int i4), .val (.int i5), .val (.int (4 : Int32)), .val (.int i7), .val (.int i8), .val (.ref b7), .unset, .unset, .unset] [(.int i1), (.int (0 : Int32)), (.ref b7)])) _
  refine st8 _ ?_
  show Steps p.tables e below (T8.setTop (mkF m 55 #[.val (.int i0), .val (.int i1), .val (.int i2), .val (.int i3), .val (.int i4), .val (.int i5), .val (.int (4 : Int32)), .val (.int i7), .val (.int i8), .val (.ref b7), .unset, .unset, .unset] [])) _
  refine XS.iload X8.here hx rfl (hb hby at_55) rfl ?_
  show Steps p.tables e below (T8.setTop (mkF m 57 #[.val (.int i0), .val (.int i1), .val (.int i2), .val (.int i3), .val (.int i4), .val (.int i5), .val (.int (4 : Int32)), .val (.int i7), .val (.int i8), .val (.ref b7), .unset, .unset, .unset] [(.int (4 : Int32))])) _
  refine XS.iconst X8.here hx rfl (hb hby at_57) ?_
  show Steps p.tables e below (T8.setTop (mkF m 58 #[.val (.int i0), .val (.int i1), .val (.int i2), .val (.int i3), .val (.int i4), .val (.int i5), .val (.int (4 : Int32)), .val (.int i7), .val (.int i8), .val (.ref b7), .unset, .unset, .unset] [(.int (1 : Int32)), (.int (4 : Int32))])) _
  refine XS.icmpNo X8.here hx rfl (hb hby at_58) rfl (tlt hc58).2.2.2 ?_
  show Steps p.tables e below (T8.setTop (mkF m 61 #[.val (.int i0), .val (.int i1), .val (.int i2), .val (.int i3), .val (.int i4), .val (.int i5), .val (.int (4 : Int32)), .val (.int i7), .val (.int i8), .val (.ref b7), .unset, .unset, .unset] [])) _
  refine XS.aload X8.here hx rfl (hb hby at_61) rfl rfl ?_
  show Steps p.tables e below (T8.setTop (mkF m 63 #[.val (.int i0), .val (.int i1), .val (.int i2), .val (.int i3), .val (.int i4), .val (.int i5), .val (.int (4 : Int32)), .val (.int i7), .val (.int i8), .val (.ref b7), .unset, .unset, .unset] [(.ref b7)])) _
  refine XS.iconst X8.here hx rfl (hb hby at_63) ?_
  show Steps p.tables e below (T8.setTop (mkF m 64 #[.val (.int i0), .val (.int i1), .val (.int i2), .val (.int i3), .val (.int i4), .val (.int i5), .val (.int (4 : Int32)), .val (.int i7), .val (.int i8), .val (.ref b7), .unset, .unset, .unset] [(.int (1 : Int32)), (.ref b7)])) _
  refine XS.iload X8.here hx rfl (hb hby at_64) rfl ?_
  show Steps p.tables e below (T8.setTop (mkF m 66 #[.val (.int i0), .val (.int i1), .val (.int i2), .val (.int i3), .val (.int i4), .val (.int i5), .val (.int (4 : Int32)), .val (.int i7), .val (.int i8), .val (.ref b7), .unset, .unset, .unset] [(.int i8), (.int (1 : Int32)), (.ref b7)])) _
  refine st9 _ ?_
  show Steps p.tables e below (T9.setTop (mkF m 67 #[.val (.int i0), .val (.int i1), .val (.int i2), .val (.int i3), .val (.int i4), .val (.int i5), .val (.int (4 : Int32)), .val (.int i7), .val (.int i8), .val (.ref b7), .unset, .unset, .unset] [])) _
  refine XS.iload X9.here hx rfl (hb hby at_67) rfl ?_
  show Steps p.tables e below (T9.setTop (mkF m 69 #[.val (.int i0), .val (.int i1), .val (.int i2), .val (.int i3), .val (.int i4), .val (.int i5), .val (.int (4 : Int32)), .val (.int i7), .val (.int i8), .val (.ref b7), .unset, .unset, .unset] [(.int (4 : Int32))])) _
  refine XS.iconst X9.here hx rfl (hb hby at_69) ?_
  show Steps p.tables e below (T9.setTop (mkF m 70 #[.val (.int i0), .val (.int i1), .val (.int i2), .val (.int i3), .val (.int i4), .val (.int i5), .val (.int (4 : Int32)), .val (.int i7), .val (.int i8), .val (.ref b7), .unset, .unset, .unset] [(.int (2 : Int32)), (.int (4 : Int32))])) _
  refine XS.icmpNo X9.here hx rfl (hb hby at_70) rfl (tlt hc70).2.2.2 ?_
  show Steps p.tables e below (T9.setTop (mkF m 73 #[.val (.int i0), .val (.int i1), .val (.int i2), .val (.int i3), .val (.int i4), .val (.int i5), .val (.int (4 : Int32)), .val (.int i7), .val (.int i8), .val (.ref b7), .unset, .unset, .unset] [])) _
  refine XS.aload X9.here hx rfl (hb hby at_73) rfl rfl ?_
  show Steps p.tables e below (T9.setTop (mkF m 75 #[.val (.int i0), .val (.int i1), .val (.int i2), .val (.int i3), .val (.int i4), .val (.int i5), .val (.int (4 : Int32)), .val (.int i7), .val (.int i8), .val (.ref b7), .unset, .unset, .unset] [(.ref b7)])) _
  refine XS.iconst X9.here hx rfl (hb hby at_75) ?_
  show Steps p.tables e below (T9.setTop (mkF m 76 #[.val (.int i0), .val (.int i1), .val (.int i2), .val (.int i3), .val (.int i4), .val (.int i5), .val (.int (4 : Int32)), .val (.int i7), .val (.int i8), .val (.ref b7), .unset, .unset, .unset] [(.int (2 : Int32)), (.ref b7)])) _
  refine XS.iloadN X9.here hx rfl (hb hby at_76) rfl ?_
  show Steps p.tables e below (T9.setTop (mkF m 77 #[.val (.int i0), .val (.int i1), .val (.int i2), .val (.int i3), .val (.int i4), .val (.int i5), .val (.int (4 : Int32)), .val (.int i7), .val (.int i8), .val (.ref b7), .unset, .unset, .unset] [(.int i3), (.int (2 : Int32)), (.ref b7)])) _
  refine st10 _ ?_
  show Steps p.tables e below (T10.setTop (mkF m 78 #[.val (.int i0), .val (.int i1), .val (.int i2), .val (.int i3), .val (.int i4), .val (.int i5), .val (.int (4 : Int32)), .val (.int i7), .val (.int i8), .val (.ref b7), .unset, .unset, .unset] [])) _
  refine XS.iload X10.here hx rfl (hb hby at_78) rfl ?_
  show Steps p.tables e below (T10.setTop (mkF m 80 #[.val (.int i0), .val (.int i1), .val (.int i2), .val (.int i3), .val (.int i4), .val (.int i5), .val (.int (4 : Int32)), .val (.int i7), .val (.int i8), .val (.ref b7), .unset, .unset, .unset] [(.int (4 : Int32))])) _
  refine XS.iconst X10.here hx rfl (hb hby at_80) ?_
  show Steps p.tables e below (T10.setTop (mkF m 81 #[.val (.int i0), .val (.int i1), .val (.int i2), .val (.int i3), .val (.int i4), .val (.int i5), .val (.int (4 : Int32)), .val (.int i7), .val (.int i8), .val (.ref b7), .unset, .unset, .unset] [(.int (3 : Int32)), (.int (4 : Int32))])) _
  refine XS.icmpNo X10.here hx rfl (hb hby at_81) rfl (tlt hc81).2.2.2 ?_
  show Steps p.tables e below (T10.setTop (mkF m 84 #[.val (.int i0), .val (.int i1), .val (.int i2), .val (.int i3), .val (.int i4), .val (.int i5), .val (.int (4 : Int32)), .val (.int i7), .val (.int i8), .val (.ref b7), .unset, .unset, .unset] [])) _
  refine XS.aload X10.here hx rfl (hb hby at_84) rfl rfl ?_
  show Steps p.tables e below (T10.setTop (mkF m 86 #[.val (.int i0), .val (.int i1), .val (.int i2), .val (.int i3), .val (.int i4), .val (.int i5), .val (.int (4 : Int32)), .val (.int i7), .val (.int i8), .val (.ref b7), .unset, .unset, .unset] [(.ref b7)])) _
  refine XS.iconst X10.here hx rfl (hb hby at_86) ?_
  show Steps p.tables e below (T10.setTop (mkF m 87 #[.val (.int i0), .val (.int i1), .val (.int i2), .val (.int i3), .val (.int i4), .val (.int i5), .val (.int (4 : Int32)), .val (.int i7), .val (.int i8), .val (.ref b7), .unset, .unset, .unset] [(.int (3 : Int32)), (.ref b7)])) _
  refine XS.iload X10.here hx rfl (hb hby at_87) rfl ?_
  show Steps p.tables e below (T10.setTop (mkF m 89 #[.val (.int i0), .val (.int i1), .val (.int i2), .val (.int i3), .val (.int i4), .val (.int i5), .val (.int (4 : Int32)), .val (.int i7), .val (.int i8), .val (.ref b7), .unset, .unset, .unset] [(.int i4), (.int (3 : Int32)), (.ref b7)])) _
  refine st11 _ ?_
  show Steps p.tables e below (T11.setTop (mkF m 90 #[.val (.int i0), .val (.int i1), .val (.int i2), .val (.int i3), .val (.int i4), .val (.int i5), .val (.int (4 : Int32)), .val (.int i7), .val (.int i8), .val (.ref b7), .unset, .unset, .unset] [])) _
  refine XS.iload X11.here hx rfl (hb hby at_90) rfl ?_
  show Steps p.tables e below (T11.setTop (mkF m 92 #[.val (.int i0), .val (.int i1), .val (.int i2), .val (.int i3), .val (.int i4), .val (.int i5), .val (.int (4 : Int32)), .val (.int i7), .val (.int i8), .val (.ref b7), .unset, .unset, .unset] [(.int (4 : Int32))])) _
  refine XS.iconst X11.here hx rfl (hb hby at_92) ?_
  show Steps p.tables e below (T11.setTop (mkF m 93 #[.val (.int i0), .val (.int i1), .val (.int i2), .val (.int i3), .val (.int i4), .val (.int i5), .val (.int (4 : Int32)), .val (.int i7), .val (.int i8), .val (.ref b7), .unset, .unset, .unset] [(.int (4 : Int32)), (.int (4 : Int32))])) _
  refine XS.icmpYes X11.here hx rfl (pc0 := 93) (pc' := 102) rfl (hb hby at_93) rfl (flt hc93).2.2.2 (by decide) (by decide) ?_
  exact kt
set_option maxRecDepth 65536 in
set_option maxHeartbeats 40000000 in
theorem sgB5 {p : Program} {l : Launch} {e : Env} {s : State} {m : MethodId} {args : Array Value} {below : List Frame} {meth : Method} {c : Code} {T0 : State} {locs : List Loc} {Z : State} {a0 : Array Value} {h0 : Heap} {n0 : Nat} (i0 : Int32) (i1 : Int32) (i2 : Int32) (i3 : Int32) (i4 : Int32) (i5 : Int32) (i7 : Int32) (i8 : Int32)
    (X0 : Stand p l e room_1 s m args below meth c T0 locs 0 0) (hx : p.tables.exec = Jvm.exec) (hZ : Z.Warmed39 s.vm) (hw : ∀ d ∈ tables_1, d.before a0 Z = true) (hby : c.code = code) (hml : c.maxLocals = 13) (hown : s.vm.findClass "com/example/restless_reasoner/restlessreasoner/engine/tableau/PremisesIsEqualityPinLaw" = some m.cls) (e0 : T0.heap = h0) (Z0 : n0 ≤ h0.size) (N0 : Fr n0 locs) (hc47 : (0 : Int32) < (5 : Int32)) (hc58 : (1 : Int32) < (5 : Int32)) (hc70 : (2 : Int32) < (5 : Int32)) (hc81 : (3 : Int32) < (5 : Int32)) (hc93 : (4 : Int32) < (5 : Int32)) :
    ∃ (T' : State) (h' : Heap) (locs' : List Loc) (b7 : Addr) (k7 : ClassId), Stand p l e room_1 s m args below meth c T' locs' 1 5 ∧ T'.heap = h' ∧ Fr n0 locs' ∧ Keep h0 h' [] ∧ n0 ≤ b7 ∧ h0.size ≤ b7 ∧ Arv Z h' b7 k7 .int (5 : Int32) [(.int i1), (.int i8), (.int i3), (.int i4), (.int i5)] (.int (0 : Int32)) ∧
      ∀ target, Steps p.tables e below (T'.setTop (mkF m 102 #[.val (.int i0), .val (.int i1), .val (.int i2), .val (.int i3), .val (.int i4), .val (.int i5), .val (.int (5 : Int32)), .val (.int i7), .val (.int i8), .val (.ref b7), .unset, .unset, .unset] [])) target → Steps p.tables e below (T0.setTop (mkF m 39 #[.val (.int i0), .val (.int i1), .val (.int i2), .val (.int i3), .val (.int i4), .val (.int i5), .val (.int (5 : Int32)), .val (.int i7), .val (.int i8), .unset, .unset, .unset, .unset] [])) target := by
  obtain ⟨T7, h7, k7, X7, e7, E7, A7, st7⟩ := newP X0 hx hZ (hw _ (List.mem_of_getElem? (i := 1) rfl)) e0 (g := (mkF m 41 #[.val (.int i0), .val (.int i1), .val (.int i2), .val (.int i3), .val (.int i4), .val (.int i5), .val (.int (5 : Int32)), .val (.int i7), .val (.int i8), .unset, .unset, .unset, .unset] [(.int (5 : Int32))])) rfl (hb hby at_41) rfl (by decide) (cap := 5) (by decide) (by decide) (by decide) (by decide)
  obtain ⟨b7, g7⟩ : ∃ z, z = h0.size := ⟨_, rfl⟩
  rw [← g7] at A7 st7
  have V_b7 : Arv Z h7 b7 k7 .int (5 : Int32) [(.int (0 : Int32)), (.int (0 : Int32)), (.int (0 : Int32)), (.int (0 : Int32)), (.int (0 : Int32))] (.int (0 : Int32)) := (Arv.new A7 (by decide)).pad (pad_rep [] (.int (0 : Int32)) 5)
  have g_b7 : n0 ≤ b7 := Nat.le_trans Z0 (Nat.le_of_eq g7.symm)
  have sz_b7 : h0.size ≤ b7 := (Nat.le_trans (Keep.refl h0 []).1 (Nat.le_of_eq g7.symm))
  have K7 : Keep h0 h7 [] := (Keep.refl h0 []).ext E7
  obtain ⟨cl_b7_54, Ar_b7, q_b7, S_b7, N_b7, H_b7, G_b7⟩ := V_b7
  have hin54 : ¬ ((0 : Int32) < 0 ∨ cl_b7_54.slots.size ≤ ((0 : Int32)).toNatClampNeg) := inb_of S_b7 ⟨by decide, by decide⟩
  obtain ⟨T8, h8, X8, e8, W8, st8⟩ := stI X7 hx hZ e7 Ar_b7 (j := (0 : Int32)) hin54 (g := (mkF m 54 #[.val (.int i0), .val (.int i1), .val (.int i2), .val (.int i3), .val (.int i4), .val (.int i5), .val (.int (5 : Int32)), .val (.int i7), .val (.int i8), .val (.ref b7), .unset, .unset, .unset] [(.int i1), (.int (0 : Int32)), (.ref b7)])) rfl rfl (hb hby at_54)
  have V_b7_8 := Arv.set Ar_b7 q_b7 S_b7 N_b7 H_b7 G_b7 rfl W8 0 rfl (Nat.le_of_ble_eq_true rfl)
  have K8 : Keep h0 h8 [] := K7.wr W8 (Or.inr sz_b7)
  have N8 := Fr.snoc X8 N0 g_b7
  obtain ⟨cl_b7_66, Ar_b7, q_b7, S_b7, N_b7, H_b7, G_b7⟩ := V_b7_8
  have hin66 : ¬ ((1 : Int32) < 0 ∨ cl_b7_66.slots.size ≤ ((1 : Int32)).toNatClampNeg) := inb_of S_b7 ⟨by decide, by decide⟩
  obtain ⟨T9, h9, X9, e9, W9, st9⟩ := stI X8 hx hZ e8 Ar_b7 (j := (1 : Int32)) hin66 (g := (mkF m 66 #[.val (.int i0), .val (.int i1), .val (.int i2), .val (.int i3), .val (.int i4), .val (.int i5), .val (.int (5 : Int32)), .val (.int i7), .val (.int i8), .val (.ref b7), .unset, .unset, .unset] [(.int i8), (.int (1 : Int32)), (.ref b7)])) rfl rfl (hb hby at_66)
  have V_b7_9 := Arv.set Ar_b7 q_b7 S_b7 N_b7 H_b7 G_b7 rfl W9 1 rfl (Nat.le_of_ble_eq_true rfl)
  have K9 : Keep h0 h9 [] := K8.wr W9 (Or.inr sz_b7)
  have N9 := Fr.snoc X9 N8 g_b7
  obtain ⟨cl_b7_77, Ar_b7, q_b7, S_b7, N_b7, H_b7, G_b7⟩ := V_b7_9
  have hin77 : ¬ ((2 : Int32) < 0 ∨ cl_b7_77.slots.size ≤ ((2 : Int32)).toNatClampNeg) := inb_of S_b7 ⟨by decide, by decide⟩
  obtain ⟨T10, h10, X10, e10, W10, st10⟩ := stI X9 hx hZ e9 Ar_b7 (j := (2 : Int32)) hin77 (g := (mkF m 77 #[.val (.int i0), .val (.int i1), .val (.int i2), .val (.int i3), .val (.int i4), .val (.int i5), .val (.int (5 : Int32)), .val (.int i7), .val (.int i8), .val (.ref b7), .unset, .unset, .unset] [(.int i3), (.int (2 : Int32)), (.ref b7)])) rfl rfl (hb hby at_77)
  have V_b7_10 := Arv.set Ar_b7 q_b7 S_b7 N_b7 H_b7 G_b7 rfl W10 2 rfl (Nat.le_of_ble_eq_true rfl)
  have K10 : Keep h0 h10 [] := K9.wr W10 (Or.inr sz_b7)
  have N10 := Fr.snoc X10 N9 g_b7
  obtain ⟨cl_b7_89, Ar_b7, q_b7, S_b7, N_b7, H_b7, G_b7⟩ := V_b7_10
  have hin89 : ¬ ((3 : Int32) < 0 ∨ cl_b7_89.slots.size ≤ ((3 : Int32)).toNatClampNeg) := inb_of S_b7 ⟨by decide, by decide⟩
  obtain ⟨T11, h11, X11, e11, W11, st11⟩ := stI X10 hx hZ e10 Ar_b7 (j := (3 : Int32)) hin89 (g := (mkF m 89 #[.val (.int i0), .val (.int i1), .val (.int i2), .val (.int i3), .val (.int i4), .val (.int i5), .val (.int (5 : Int32)), .val (.int i7), .val (.int i8), .val (.ref b7), .unset, .unset, .unset] [(.int i4), (.int (3 : Int32)), (.ref b7)])) rfl rfl (hb hby at_89)
  have V_b7_11 := Arv.set Ar_b7 q_b7 S_b7 N_b7 H_b7 G_b7 rfl W11 3 rfl (Nat.le_of_ble_eq_true rfl)
  have K11 : Keep h0 h11 [] := K10.wr W11 (Or.inr sz_b7)
  have N11 := Fr.snoc X11 N10 g_b7
  obtain ⟨cl_b7_101, Ar_b7, q_b7, S_b7, N_b7, H_b7, G_b7⟩ := V_b7_11
  have hin101 : ¬ ((4 : Int32) < 0 ∨ cl_b7_101.slots.size ≤ ((4 : Int32)).toNatClampNeg) := inb_of S_b7 ⟨by decide, by decide⟩
  obtain ⟨T12, h12, X12, e12, W12, st12⟩ := stI X11 hx hZ e11 Ar_b7 (j := (4 : Int32)) hin101 (g := (mkF m 101 #[.val (.int i0), .val (.int i1), .val (.int i2), .val (.int i3), .val (.int i4), .val (.int i5), .val (.int (5 : Int32)), .val (.int i7), .val (.int i8), .val (.ref b7), .unset, .unset, .unset] [(.int i5), (.int (4 : Int32)), (.ref b7)])) rfl rfl (hb hby at_101)
  have V_b7_12 := Arv.set Ar_b7 q_b7 S_b7 N_b7 H_b7 G_b7 rfl W12 4 rfl (Nat.le_of_ble_eq_true rfl)
  have K12 : Keep h0 h12 [] := K11.wr W12 (Or.inr sz_b7)
  have N12 := Fr.snoc X12 N11 g_b7
  refine ⟨T12, _, _, b7, k7, X12, e12, N12, K12, g_b7, sz_b7, V_b7_12, fun target kt => ?_⟩
  show Steps p.tables e below (T0.setTop (mkF m 39 #[.val (.int i0), .val (.int i1), .val (.int i2), .val (.int i3), .val (.int i4), .val (.int i5), .val (.int (5 : Int32)), .val (.int i7), .val (.int i8), .unset, .unset, .unset, .unset] [])) _
  refine XS.iload X0.here hx rfl (hb hby at_39) rfl ?_
  show Steps p.tables e below (T0.setTop (mkF m 41 #[.val (.int i0), .val (.int i1), .val (.int i2), .val (.int i3), .val (.int i4), .val (.int i5), .val (.int (5 : Int32)), .val (.int i7), .val (.int i8), .unset, .unset, .unset, .unset] [(.int (5 : Int32))])) _
  refine st7 _ ?_
  show Steps p.tables e below (T7.setTop (mkF m 43 #[.val (.int i0), .val (.int i1), .val (.int i2), .val (.int i3), .val (.int i4), .val (.int i5), .val (.int (5 : Int32)), .val (.int i7), .val (.int i8), .unset, .unset, .unset, .unset] [(.ref b7)])) _
  refine XS.astore X7.here hx rfl (hb hby at_43) rfl rfl (l' := #[.val (.int i0), .val (.int i1), .val (.int i2), .val (.int i3), .val (.int i4), .val (.int i5), .val (.int (5 : Int32)), .val (.int i7), .val (.int i8), .val (.ref b7), .unset, .unset, .unset]) rfl ?_
  show Steps p.tables e below (T7.setTop (mkF m 45 #[.val (.int i0), .val (.int i1), .val (.int i2), .val (.int i3), .val (.int i4), .val (.int i5), .val (.int (5 : Int32)), .val (.int i7), .val (.int i8), .val (.ref b7), .unset, .unset, .unset] [])) _
  refine XS.iload X7.here hx rfl (hb hby at_45) rfl ?_
  show Steps p.tables e below (T7.setTop (mkF m 47 #[.val (.int i0), .val (.int i1), .val (.int i2), .val (.int i3), .val (.int i4), .val (.int i5), .val (.int (5 : Int32)), .val (.int i7), .val (.int i8), .val (.ref b7), .unset, .unset, .unset] [(.int (5 : Int32))])) _
  refine XS.ifNo X7.here hx rfl (hb hby at_47) rfl ((if0 _ _).trans (tlt hc47).2.2.2) ?_
  show Steps p.tables e below (T7.setTop (mkF m 50 #[.val (.int i0), .val (.int i1), .val (.int i2), .val (.int i3), .val (.int i4), .val (.int i5), .val (.int (5 : Int32)), .val (.int i7), .val (.int i8), .val (.ref b7), .unset, .unset, .unset] [])) _
  refine XS.aload X7.here hx rfl (hb hby at_50) rfl rfl ?_
  show Steps p.tables e below (T7.setTop (mkF m 52 #[.val (.int i0), .val (.int i1), .val (.int i2), .val (.int i3), .val (.int i4), .val (.int i5), .val (.int (5 : Int32)), .val (.int i7), .val (.int i8), .val (.ref b7), .unset, .unset, .unset] [(.ref b7)])) _
  refine XS.iconst X7.here hx rfl (hb hby at_52) ?_
  show Steps p.tables e below (T7.setTop (mkF m 53 #[.val (.int i0), .val (.int i1), .val (.int i2), .val (.int i3), .val (.int i4), .val (.int i5), .val (.int (5 : Int32)), .val (.int i7), .val (.int i8), .val (.ref b7), .unset, .unset, .unset] [(.int (0 : Int32)), (.ref b7)])) _
  refine XS.iloadN X7.here hx rfl (hb hby at_53) rfl ?_
  show Steps p.tables e below (T7.setTop (mkF m 54 #[.val (.int i0), .val (.int i1), .val (.int i2), .val (.int i3), .val (.int i4), .val (.int i5), .val (.int (5 : Int32)), .val (.int i7), .val (.int i8), .val (.ref b7), .unset, .unset, .unset] [(.int i1), (.int (0 : Int32)), (.ref b7)])) _
  refine st8 _ ?_
  show Steps p.tables e below (T8.setTop (mkF m 55 #[.val (.int i0), .val (.int i1), .val (.int i2), .val (.int i3), .val (.int i4), .val (.int i5), .val (.int (5 : Int32)), .val (.int i7), .val (.int i8), .val (.ref b7), .unset, .unset, .unset] [])) _
  refine XS.iload X8.here hx rfl (hb hby at_55) rfl ?_
  show Steps p.tables e below (T8.setTop (mkF m 57 #[.val (.int i0), .val (.int i1), .val (.int i2), .val (.int i3), .val (.int i4), .val (.int i5), .val (.int (5 : Int32)), .val (.int i7), .val (.int i8), .val (.ref b7), .unset, .unset, .unset] [(.int (5 : Int32))])) _
  refine XS.iconst X8.here hx rfl (hb hby at_57) ?_
  show Steps p.tables e below (T8.setTop (mkF m 58 #[.val (.int i0), .val (.int i1), .val (.int i2), .val (.int i3), .val (.int i4), .val (.int i5), .val (.int (5 : Int32)), .val (.int i7), .val (.int i8), .val (.ref b7), .unset, .unset, .unset] [(.int (1 : Int32)), (.int (5 : Int32))])) _
  refine XS.icmpNo X8.here hx rfl (hb hby at_58) rfl (tlt hc58).2.2.2 ?_
  show Steps p.tables e below (T8.setTop (mkF m 61 #[.val (.int i0), .val (.int i1), .val (.int i2), .val (.int i3), .val (.int i4), .val (.int i5), .val (.int (5 : Int32)), .val (.int i7), .val (.int i8), .val (.ref b7), .unset, .unset, .unset] [])) _
  refine XS.aload X8.here hx rfl (hb hby at_61) rfl rfl ?_
  show Steps p.tables e below (T8.setTop (mkF m 63 #[.val (.int i0), .val (.int i1), .val (.int i2), .val (.int i3), .val (.int i4), .val (.int i5), .val (.int (5 : Int32)), .val (.int i7), .val (.int i8), .val (.ref b7), .unset, .unset, .unset] [(.ref b7)])) _
  refine XS.iconst X8.here hx rfl (hb hby at_63) ?_
  show Steps p.tables e below (T8.setTop (mkF m 64 #[.val (.int i0), .val (.int i1), .val (.int i2), .val (.int i3), .val (.int i4), .val (.int i5), .val (.int (5 : Int32)), .val (.int i7), .val (.int i8), .val (.ref b7), .unset, .unset, .unset] [(.int (1 : Int32)), (.ref b7)])) _
  refine XS.iload X8.here hx rfl (hb hby at_64) rfl ?_
  show Steps p.tables e below (T8.setTop (mkF m 66 #[.val (.int i0), .val (.int i1), .val (.int i2), .val (.int i3), .val (.int i4), .val (.int i5), .val (.int (5 : Int32)), .val (.int i7), .val (.int i8), .val (.ref b7), .unset, .unset, .unset] [(.int i8), (.int (1 : Int32)), (.ref b7)])) _
  refine st9 _ ?_
  show Steps p.tables e below (T9.setTop (mkF m 67 #[.val (.int i0), .val (.int i1), .val (.int i2), .val (.int i3), .val (.int i4), .val (.int i5), .val (.int (5 : Int32)), .val (.int i7), .val (.int i8), .val (.ref b7), .unset, .unset, .unset] [])) _
  refine XS.iload X9.here hx rfl (hb hby at_67) rfl ?_
  show Steps p.tables e below (T9.setTop (mkF m 69 #[.val (.int i0), .val (.int i1), .val (.int i2), .val (.int i3), .val (.int i4), .val (.int i5), .val (.int (5 : Int32)), .val (.int i7), .val (.int i8), .val (.ref b7), .unset, .unset, .unset] [(.int (5 : Int32))])) _
  refine XS.iconst X9.here hx rfl (hb hby at_69) ?_
  show Steps p.tables e below (T9.setTop (mkF m 70 #[.val (.int i0), .val (.int i1), .val (.int i2), .val (.int i3), .val (.int i4), .val (.int i5), .val (.int (5 : Int32)), .val (.int i7), .val (.int i8), .val (.ref b7), .unset, .unset, .unset] [(.int (2 : Int32)), (.int (5 : Int32))])) _
  refine XS.icmpNo X9.here hx rfl (hb hby at_70) rfl (tlt hc70).2.2.2 ?_
  show Steps p.tables e below (T9.setTop (mkF m 73 #[.val (.int i0), .val (.int i1), .val (.int i2), .val (.int i3), .val (.int i4), .val (.int i5), .val (.int (5 : Int32)), .val (.int i7), .val (.int i8), .val (.ref b7), .unset, .unset, .unset] [])) _
  refine XS.aload X9.here hx rfl (hb hby at_73) rfl rfl ?_
  show Steps p.tables e below (T9.setTop (mkF m 75 #[.val (.int i0), .val (.int i1), .val (.int i2), .val (.int i3), .val (.int i4), .val (.int i5), .val (.int (5 : Int32)), .val (.int i7), .val (.int i8), .val (.ref b7), .unset, .unset, .unset] [(.ref b7)])) _
  refine XS.iconst X9.here hx rfl (hb hby at_75) ?_
  show Steps p.tables e below (T9.setTop (mkF m 76 #[.val (.int i0), .val (.int i1), .val (.int i2), .val (.int i3), .val (.int i4), .val (.int i5), .val (.int (5 : Int32)), .val (.int i7), .val (.int i8), .val (.ref b7), .unset, .unset, .unset] [(.int (2 : Int32)), (.ref b7)])) _
  refine XS.iloadN X9.here hx rfl (hb hby at_76) rfl ?_
  show Steps p.tables e below (T9.setTop (mkF m 77 #[.val (.int i0), .val (.int i1), .val (.int i2), .val (.int i3), .val (.int i4), .val (.int i5), .val (.int (5 : Int32)), .val (.int i7), .val (.int i8), .val (.ref b7), .unset, .unset, .unset] [(.int i3), (.int (2 : Int32)), (.ref b7)])) _
  refine st10 _ ?_
  show Steps p.tables e below (T10.setTop (mkF m 78 #[.val (.int i0), .val (.int i1), .val (.int i2), .val (.int i3), .val (.int i4), .val (.int i5), .val (.int (5 : Int32)), .val (.int i7), .val (.int i8), .val (.ref b7), .unset, .unset, .unset] [])) _
  refine XS.iload X10.here hx rfl (hb hby at_78) rfl ?_
  show Steps p.tables e below (T10.setTop (mkF m 80 #[.val (.int i0), .val (.int i1), .val (.int i2), .val (.int i3), .val (.int i4), .val (.int i5), .val (.int (5 : Int32)), .val (.int i7), .val (.int i8), .val (.ref b7), .unset, .unset, .unset] [(.int (5 : Int32))])) _
  refine XS.iconst X10.here hx rfl (hb hby at_80) ?_
  show Steps p.tables e below (T10.setTop (mkF m 81 #[.val (.int i0), .val (.int i1), .val (.int i2), .val (.int i3), .val (.int i4), .val (.int i5), .val (.int (5 : Int32)), .val (.int i7), .val (.int i8), .val (.ref b7), .unset, .unset, .unset] [(.int (3 : Int32)), (.int (5 : Int32))])) _
  refine XS.icmpNo X10.here hx rfl (hb hby at_81) rfl (tlt hc81).2.2.2 ?_
  show Steps p.tables e below (T10.setTop (mkF m 84 #[.val (.int i0), .val (.int i1), .val (.int i2), .val (.int i3), .val (.int i4), .val (.int i5), .val (.int (5 : Int32)), .val (.int i7), .val (.int i8), .val (.ref b7), .unset, .unset, .unset] [])) _
  refine XS.aload X10.here hx rfl (hb hby at_84) rfl rfl ?_
  show Steps p.tables e below (T10.setTop (mkF m 86 #[.val (.int i0), .val (.int i1), .val (.int i2), .val (.int i3), .val (.int i4), .val (.int i5), .val (.int (5 : Int32)), .val (.int i7), .val (.int i8), .val (.ref b7), .unset, .unset, .unset] [(.ref b7)])) _
  refine XS.iconst X10.here hx rfl (hb hby at_86) ?_
  show Steps p.tables e below (T10.setTop (mkF m 87 #[.val (.int i0), .val (.int i1), .val (.int i2), .val (.int i3), .val (.int i4), .val (.int i5), .val (.int (5 : Int32)), .val (.int i7), .val (.int i8), .val (.ref b7), .unset, .unset, .unset] [(.int (3 : Int32)), (.ref b7)])) _
  refine XS.iload X10.here hx rfl (hb hby at_87) rfl ?_
  show Steps p.tables e below (T10.setTop (mkF m 89 #[.val (.int i0), .val (.int i1), .val (.int i2), .val (.int i3), .val (.int i4), .val (.int i5), .val (.int (5 : Int32)), .val (.int i7), .val (.int i8), .val (.ref b7), .unset, .unset, .unset] [(.int i4), (.int (3 : Int32)), (.ref b7)])) _
  refine st11 _ ?_
  show Steps p.tables e below (T11.setTop (mkF m 90 #[.val (.int i0), .val (.int i1), .val (.int i2), .val (.int i3), .val (.int i4), .val (.int i5), .val (.int (5 : Int32)), .val (.int i7), .val (.int i8), .val (.ref b7), .unset, .unset, .unset] [])) _
  refine XS.iload X11.here hx rfl (hb hby at_90) rfl ?_
  show Steps p.tables e below (T11.setTop (mkF m 92 #[.val (.int i0), .val (.int i1), .val (.int i2), .val (.int i3), .val (.int i4), .val (.int i5), .val (.int (5 : Int32)), .val (.int i7), .val (.int i8), .val (.ref b7), .unset, .unset, .unset] [(.int (5 : Int32))])) _
  refine XS.iconst X11.here hx rfl (hb hby at_92) ?_
  show Steps p.tables e below (T11.setTop (mkF m 93 #[.val (.int i0), .val (.int i1), .val (.int i2), .val (.int i3), .val (.int i4), .val (.int i5), .val (.int (5 : Int32)), .val (.int i7), .val (.int i8), .val (.ref b7), .unset, .unset, .unset] [(.int (4 : Int32)), (.int (5 : Int32))])) _
  refine XS.icmpNo X11.here hx rfl (hb hby at_93) rfl (tlt hc93).2.2.2 ?_
  show Steps p.tables e below (T11.setTop (mkF m 96 #[.val (.int i0), .val (.int i1), .val (.int i2), .val (.int i3), .val (.int i4), .val (.int i5), .val (.int (5 : Int32)), .val (.int i7), .val (.int i8), .val (.ref b7), .unset, .unset, .unset] [])) _
  refine XS.aload X11.here hx rfl (hb hby at_96) rfl rfl ?_
  show Steps p.tables e below (T11.setTop (mkF m 98 #[.val (.int i0), .val (.int i1), .val (.int i2), .val (.int i3), .val (.int i4), .val (.int i5), .val (.int (5 : Int32)), .val (.int i7), .val (.int i8), .val (.ref b7), .unset, .unset, .unset] [(.ref b7)])) _
  refine XS.iconst X11.here hx rfl (hb hby at_98) ?_
  show Steps p.tables e below (T11.setTop (mkF m 99 #[.val (.int i0), .val (.int i1), .val (.int i2), .val (.int i3), .val (.int i4), .val (.int i5), .val (.int (5 : Int32)), .val (.int i7), .val (.int i8), .val (.ref b7), .unset, .unset, .unset] [(.int (4 : Int32)), (.ref b7)])) _
  refine XS.iload X11.here hx rfl (hb hby at_99) rfl ?_
  show Steps p.tables e below (T11.setTop (mkF m 101 #[.val (.int i0), .val (.int i1), .val (.int i2), .val (.int i3), .val (.int i4), .val (.int i5), .val (.int (5 : Int32)), .val (.int i7), .val (.int i8), .val (.ref b7), .unset, .unset, .unset] [(.int i5), (.int (4 : Int32)), (.ref b7)])) _
  refine st12 _ ?_
  exact kt
set_option maxRecDepth 65536 in
set_option maxHeartbeats 40000000 in
theorem sgB {p : Program} {l : Launch} {e : Env} {s : State} {m : MethodId} {args : Array Value} {below : List Frame} {meth : Method} {c : Code} {T0 : State} {locs : List Loc} {Z : State} {a0 : Array Value} {h0 : Heap} {n0 : Nat} (i0 : Int32) (i1 : Int32) (i2 : Int32) (i3 : Int32) (i4 : Int32) (i5 : Int32) (i6 : Int32) (i7 : Int32) (i8 : Int32) 
    (hn : i6 = 0 ∨ i6 = 1 ∨ i6 = 2 ∨ i6 = 3 ∨ i6 = 4 ∨ i6 = 5) (X0 : Stand p l e room_1 s m args below meth c T0 locs 0 0) (hx : p.tables.exec = Jvm.exec) (hZ : Z.Warmed39 s.vm) (hw : ∀ d ∈ tables_1, d.before a0 Z = true) (hby : c.code = code) (hml : c.maxLocals = 13) (hown : s.vm.findClass "com/example/restless_reasoner/restlessreasoner/engine/tableau/PremisesIsEqualityPinLaw" = some m.cls) (e0 : T0.heap = h0) (Z0 : n0 ≤ h0.size) (N0 : Fr n0 locs) :
    ∃ (T' : State) (h' : Heap) (locs' : List Loc) (b : Addr) (k : ClassId) (vs : List Value), Stand p l e room_1 s m args below meth c T' locs' 1 5 ∧ T'.heap = h' ∧ Fr n0 locs' ∧ Keep h0 h' [] ∧ n0 ≤ b ∧ h0.size ≤ b ∧ Arv Z h' b k .int i6 vs (.int (0 : Int32)) ∧ ((1 : Int32) < i6 → vs.getD 1 (.int (0 : Int32)) = .int i8) ∧
      ∀ target, Steps p.tables e below (T'.setTop (mkF m 102 #[.val (.int i0), .val (.int i1), .val (.int i2), .val (.int i3), .val (.int i4), .val (.int i5), .val (.int i6), .val (.int i7), .val (.int i8), .val (.ref b), .unset, .unset, .unset] [])) target → Steps p.tables e below (T0.setTop (mkF m 39 #[.val (.int i0), .val (.int i1), .val (.int i2), .val (.int i3), .val (.int i4), .val (.int i5), .val (.int i6), .val (.int i7), .val (.int i8), .unset, .unset, .unset, .unset] [])) target := by
  rcases hn with rfl | rfl | rfl | rfl | rfl | rfl
  · obtain ⟨T', h', locs', b, k, X', e', N', K', g', s', V', st⟩ := sgB0 i0 i1 i2 i3 i4 i5 i7 i8 X0 hx hZ hw hby hml hown e0 Z0 N0 (by decide) (by decide) (by decide) (by decide) (by decide)
    exact ⟨T', h', locs', b, k, _, X', e', N', K', g', s', V', (fun h => absurd h (by decide)), st⟩
  · obtain ⟨T', h', locs', b, k, X', e', N', K', g', s', V', st⟩ := sgB1 i0 i1 i2 i3 i4 i5 i7 i8 X0 hx hZ hw hby hml hown e0 Z0 N0 (by decide) (by decide) (by decide) (by decide) (by decide)
    exact ⟨T', h', locs', b, k, _, X', e', N', K', g', s', V', (fun h => absurd h (by decide)), st⟩
  · obtain ⟨T', h', locs', b, k, X', e', N', K', g', s', V', st⟩ := sgB2 i0 i1 i2 i3 i4 i5 i7 i8 X0 hx hZ hw hby hml hown e0 Z0 N0 (by decide) (by decide) (by decide) (by decide) (by decide)
    exact ⟨T', h', locs', b, k, _, X', e', N', K', g', s', V', (fun _ => rfl), st⟩
  · obtain ⟨T', h', locs', b, k, X', e', N', K', g', s', V', st⟩ := sgB3 i0 i1 i2 i3 i4 i5 i7 i8 X0 hx hZ hw hby hml hown e0 Z0 N0 (by decide) (by decide) (by decide) (by decide) (by decide)
    exact ⟨T', h', locs', b, k, _, X', e', N', K', g', s', V', (fun _ => rfl), st⟩
  · obtain ⟨T', h', locs', b, k, X', e', N', K', g', s', V', st⟩ := sgB4 i0 i1 i2 i3 i4 i5 i7 i8 X0 hx hZ hw hby hml hown e0 Z0 N0 (by decide) (by decide) (by decide) (by decide) (by decide)
    exact ⟨T', h', locs', b, k, _, X', e', N', K', g', s', V', (fun _ => rfl), st⟩
  · obtain ⟨T', h', locs', b, k, X', e', N', K', g', s', V', st⟩ := sgB5 i0 i1 i2 i3 i4 i5 i7 i8 X0 hx hZ hw hby hml hown e0 Z0 N0 (by decide) (by decide) (by decide) (by decide) (by decide)
    exact ⟨T', h', locs', b, k, _, X', e', N', K', g', s', V', (fun _ => rfl), st⟩
theorem pd_0_0 : parseMethodDescriptor "([I)Z" = some ⟨[(.array .int)], some .boolean⟩ := by decide +kernel
set_option maxRecDepth 65536 in
set_option maxHeartbeats 40000000 in
theorem sgC_ttt {p : Program} {l : Launch} {e : Env} {s : State} {m : MethodId} {args : Array Value} {below : List Frame} {meth : Method} {c : Code} {T0 : State} {locs : List Loc} {Z : State} {a0 : Array Value} {h0 : Heap} {n0 : Nat} (i0 : Int32) (i1 : Int32) (i2 : Int32) (i3 : Int32) (i4 : Int32) (i5 : Int32) (i6 : Int32) (i7 : Int32) (i8 : Int32) (o9 : Addr) (k_o9 : ClassId) (z_o9 : Int32) (vs_o9 : List Value) (w_o9 : Int32)
    (X0 : Stand p l e room_1 s m args below meth c T0 locs 1 5) (hx : p.tables.exec = Jvm.exec) (hZ : Z.Warmed39 s.vm) (hw : ∀ d ∈ tables_1, d.before a0 Z = true) (hby : c.code = code) (hml : c.maxLocals = 13) (hown : s.vm.findClass "com/example/restless_reasoner/restlessreasoner/engine/tableau/PremisesIsEqualityPinLaw" = some m.cls) (e0 : T0.heap = h0) (Z0 : n0 ≤ h0.size) (N0 : Fr n0 locs) (V_o9 : Arv Z h0 o9 k_o9 .int z_o9 vs_o9 (.int (0 : Int32))) (hv_o9 : (1 : Int32) < z_o9 → vs_o9.getD 1 (.int (0 : Int32)) = .int w_o9) (hc112 : i6 < (3 : Int32)) (hc133 : (own_iseq z_o9 w_o9) = (0 : Int32)) (hc140 : (own_iseq z_o9 w_o9) = (0 : Int32)) :
    ∃ (T' : State) (h' : Heap) (locs' : List Loc), Stand p l e room_1 s m args below meth c T' locs' 1 5 ∧ T'.heap = h' ∧ Fr n0 locs' ∧ Keep h0 h' [] ∧
      ∀ target, Steps p.tables e below (T'.setTop (mkF m 169 #[.val (.int i0), .val (.int i1), .val (.int i2), .val (.int i3), .val (.int i4), .val (.int i5), .val (.int i6), .val (.int i7), .val (.int i8), .val (.ref o9), .val (.int (own_iseq z_o9 w_o9)), .val (.int (0 : Int32)), .unset] [])) target → Steps p.tables e below (T0.setTop (mkF m 102 #[.val (.int i0), .val (.int i1), .val (.int i2), .val (.int i3), .val (.int i4), .val (.int i5), .val (.int i6), .val (.int i7), .val (.int i8), .val (.ref o9), .unset, .unset, .unset] [])) target := by
  have VA7_o9 := V_o9
  obtain ⟨_, _, ⟨T7, L7, k7, n7⟩, -, X7, ⟨Lc7, hQ7, l7, y7, z7⟩, st7⟩ := Jvm.LawKit.callS X0 hx (y := (⟨"com/example/restless_reasoner/restlessreasoner/engine/tableau/Premises", "isEquality", "([I)Z"⟩ : MethodName)) hown (mvT hZ (hw _ (List.mem_of_getElem? (i := 2) rfl))) (mvT hZ (hw _ (List.mem_of_getElem? (i := 3) rfl))) (mvT hZ (hw _ (List.mem_of_getElem? (i := 4) rfl))) (mvT hZ (hw _ (List.mem_of_getElem? (i := 5) rfl))) (by decide) (backOf (W := 0) (rm1 l Z a0 hw [] o9 k_o9 z_o9 vs_o9 w_o9 h0 n0 Z0 VA7_o9 hv_o9) hZ (hw _ (List.mem_of_getElem? (i := 5) rfl)) (hw _ (List.mem_of_getElem? (i := 4) rfl)) (by decide) (by decide)) (g := (mkF m 104 #[.val (.int i0), .val (.int i1), .val (.int i2), .val (.int i3), .val (.int i4), .val (.int i5), .val (.int i6), .val (.int i7), .val (.int i8), .val (.ref o9), .unset, .unset, .unset] [(.ref o9)])) rfl (by rw [hml]; rfl) (argsL := [(.ref o9)]) (rest := []) (lenOf pd_0_0 rfl) rfl (by show 2 * 0 + _ ≤ _; exact Nat.le_of_eq rfl) (hb hby at_104) (fun _ _ => ⟨rfl, e0, (Nat.le_of_ble_eq_true rfl), (Nat.le_of_ble_eq_true rfl)⟩)
  dsimp only [Pt.U, Pt.locs, Pt.cells, Pt.slots] at X7 l7 y7 z7 st7 hQ7
  subst l7 y7 z7
  obtain ⟨rfl, N7q, h7q⟩ := hQ7
  have Kq7 : Keep h0 T7.heap [] := by rw [h7q]; exact Keep.refl _ _
  have K7 : Keep h0 T7.heap [] := (Keep.refl h0 []).trans Kq7 (fun _ q => nomatch q)
  have N7 := Fr.app N0 N7q
  refine ⟨T7, _, _, X7, rfl, N7, K7, fun target kt => ?_⟩
  show Steps p.tables e below (T0.setTop (mkF m 102 #[.val (.int i0), .val (.int i1), .val (.int i2), .val (.int i3), .val (.int i4), .val (.int i5), .val (.int i6), .val (.int i7), .val (.int i8), .val (.ref o9), .unset, .unset, .unset] [])) _
  refine XS.aload X0.here hx rfl (hb hby at_102) rfl rfl ?_
  show Steps p.tables e below (T0.setTop (mkF m 104 #[.val (.int i0), .val (.int i1), .val (.int i2), .val (.int i3), .val (.int i4), .val (.int i5), .val (.int i6), .val (.int i7), .val (.int i8), .val (.ref o9), .unset, .unset, .unset] [(.ref o9)])) _
  refine st7 _ ?_
  show Steps p.tables e below (T7.setTop (mkF m 107 #[.val (.int i0), .val (.int i1), .val (.int i2), .val (.int i3), .val (.int i4), .val (.int i5), .val (.int i6), .val (.int i7), .val (.int i8), .val (.ref o9), .unset, .unset, .unset] [(.int (own_iseq z_o9 w_o9))])) _
  refine XS.istore X7.here hx rfl (hb hby at_107) rfl (l' := #[.val (.int i0), .val (.int i1), .val (.int i2), .val (.int i3), .val (.int i4), .val (.int i5), .val (.int i6), .val (.int i7), .val (.int i8), .val (.ref o9), .val (.int (own_iseq z_o9 w_o9)), .unset, .unset]) rfl ?_
  show Steps p.tables e below (T7.setTop (mkF m 109 #[.val (.int i0), .val (.int i1), .val (.int i2), .val (.int i3), .val (.int i4), .val (.int i5), .val (.int i6), .val (.int i7), .val (.int i8), .val (.ref o9), .val (.int (own_iseq z_o9 w_o9)), .unset, .unset] [])) _
  refine XS.iload X7.here hx rfl (hb hby at_109) rfl ?_
  show Steps p.tables e below (T7.setTop (mkF m 111 #[.val (.int i0), .val (.int i1), .val (.int i2), .val (.int i3), .val (.int i4), .val (.int i5), .val (.int i6), .val (.int i7), .val (.int i8), .val (.ref o9), .val (.int (own_iseq z_o9 w_o9)), .unset, .unset] [(.int i6)])) _
  refine XS.iconst X7.here hx rfl (hb hby at_111) ?_
  show Steps p.tables e below (T7.setTop (mkF m 112 #[.val (.int i0), .val (.int i1), .val (.int i2), .val (.int i3), .val (.int i4), .val (.int i5), .val (.int i6), .val (.int i7), .val (.int i8), .val (.ref o9), .val (.int (own_iseq z_o9 w_o9)), .unset, .unset] [(.int (3 : Int32)), (.int i6)])) _
  refine XS.icmpYes X7.here hx rfl (pc0 := 112) (pc' := 126) rfl (hb hby at_112) rfl (tlt hc112).1 (by decide) (by decide) ?_
  show Steps p.tables e below (T7.setTop (mkF m 126 #[.val (.int i0), .val (.int i1), .val (.int i2), .val (.int i3), .val (.int i4), .val (.int i5), .val (.int i6), .val (.int i7), .val (.int i8), .val (.ref o9), .val (.int (own_iseq z_o9 w_o9)), .unset, .unset] [])) _
  refine XS.iconst X7.here hx rfl (hb hby at_126) ?_
  show Steps p.tables e below (T7.setTop (mkF m 127 #[.val (.int i0), .val (.int i1), .val (.int i2), .val (.int i3), .val (.int i4), .val (.int i5), .val (.int i6), .val (.int i7), .val (.int i8), .val (.ref o9), .val (.int (own_iseq z_o9 w_o9)), .unset, .unset] [(.int (0 : Int32))])) _
  refine XS.istore X7.here hx rfl (hb hby at_127) rfl (l' := #[.val (.int i0), .val (.int i1), .val (.int i2), .val (.int i3), .val (.int i4), .val (.int i5), .val (.int i6), .val (.int i7), .val (.int i8), .val (.ref o9), .val (.int (own_iseq z_o9 w_o9)), .val (.int (0 : Int32)), .unset]) rfl ?_
  show Steps p.tables e below (T7.setTop (mkF m 129 #[.val (.int i0), .val (.int i1), .val (.int i2), .val (.int i3), .val (.int i4), .val (.int i5), .val (.int i6), .val (.int i7), .val (.int i8), .val (.ref o9), .val (.int (own_iseq z_o9 w_o9)), .val (.int (0 : Int32)), .unset] [])) _
  refine XS.iload X7.here hx rfl (hb hby at_129) rfl ?_
  show Steps p.tables e below (T7.setTop (mkF m 131 #[.val (.int i0), .val (.int i1), .val (.int i2), .val (.int i3), .val (.int i4), .val (.int i5), .val (.int i6), .val (.int i7), .val (.int i8), .val (.ref o9), .val (.int (own_iseq z_o9 w_o9)), .val (.int (0 : Int32)), .unset] [(.int (own_iseq z_o9 w_o9))])) _
  refine XS.iload X7.here hx rfl (hb hby at_131) rfl ?_
  show Steps p.tables e below (T7.setTop (mkF m 133 #[.val (.int i0), .val (.int i1), .val (.int i2), .val (.int i3), .val (.int i4), .val (.int i5), .val (.int i6), .val (.int i7), .val (.int i8), .val (.ref o9), .val (.int (own_iseq z_o9 w_o9)), .val (.int (0 : Int32)), .unset] [(.int (0 : Int32)), (.int (own_iseq z_o9 w_o9))])) _
  refine XS.icmpYes X7.here hx rfl (pc0 := 133) (pc' := 138) rfl (hb hby at_133) rfl (teq hc133).1 (by decide) (by decide) ?_
  show Steps p.tables e below (T7.setTop (mkF m 138 #[.val (.int i0), .val (.int i1), .val (.int i2), .val (.int i3), .val (.int i4), .val (.int i5), .val (.int i6), .val (.int i7), .val (.int i8), .val (.ref o9), .val (.int (own_iseq z_o9 w_o9)), .val (.int (0 : Int32)), .unset] [])) _
  refine XS.iload X7.here hx rfl (hb hby at_138) rfl ?_
  show Steps p.tables e below (T7.setTop (mkF m 140 #[.val (.int i0), .val (.int i1), .val (.int i2), .val (.int i3), .val (.int i4), .val (.int i5), .val (.int i6), .val (.int i7), .val (.int i8), .val (.ref o9), .val (.int (own_iseq z_o9 w_o9)), .val (.int (0 : Int32)), .unset] [(.int (own_iseq z_o9 w_o9))])) _
  refine XS.ifYes X7.here hx rfl (pc0 := 140) (pc' := 169) rfl (hb hby at_140) rfl ((if0 _ _).trans (teq hc140).1) (by decide) (by decide) ?_
  exact kt
set_option maxRecDepth 65536 in
set_option maxHeartbeats 40000000 in
theorem sgC_fttt {p : Program} {l : Launch} {e : Env} {s : State} {m : MethodId} {args : Array Value} {below : List Frame} {meth : Method} {c : Code} {T0 : State} {locs : List Loc} {Z : State} {a0 : Array Value} {h0 : Heap} {n0 : Nat} (i0 : Int32) (i1 : Int32) (i2 : Int32) (i3 : Int32) (i4 : Int32) (i5 : Int32) (i6 : Int32) (i7 : Int32) (i8 : Int32) (o9 : Addr) (k_o9 : ClassId) (z_o9 : Int32) (vs_o9 : List Value) (w_o9 : Int32)
    (X0 : Stand p l e room_1 s m args below meth c T0 locs 1 5) (hx : p.tables.exec = Jvm.exec) (hZ : Z.Warmed39 s.vm) (hw : ∀ d ∈ tables_1, d.before a0 Z = true) (hby : c.code = code) (hml : c.maxLocals = 13) (hown : s.vm.findClass "com/example/restless_reasoner/restlessreasoner/engine/tableau/PremisesIsEqualityPinLaw" = some m.cls) (e0 : T0.heap = h0) (Z0 : n0 ≤ h0.size) (N0 : Fr n0 locs) (V_o9 : Arv Z h0 o9 k_o9 .int z_o9 vs_o9 (.int (0 : Int32))) (hv_o9 : (1 : Int32) < z_o9 → vs_o9.getD 1 (.int (0 : Int32)) = .int w_o9) (hc112 : ¬ (i6 < (3 : Int32))) (hc119 : ¬ (i8 = (-2 : Int32))) (hc133 : (own_iseq z_o9 w_o9) = (0 : Int32)) (hc140 : (own_iseq z_o9 w_o9) = (0 : Int32)) :
    ∃ (T' : State) (h' : Heap) (locs' : List Loc), Stand p l e room_1 s m args below meth c T' locs' 1 5 ∧ T'.heap = h' ∧ Fr n0 locs' ∧ Keep h0 h' [] ∧
      ∀ target, Steps p.tables e below (T'.setTop (mkF m 169 #[.val (.int i0), .val (.int i1), .val (.int i2), .val (.int i3), .val (.int i4), .val (.int i5), .val (.int i6), .val (.int i7), .val (.int i8), .val (.ref o9), .val (.int (own_iseq z_o9 w_o9)), .val (.int (0 : Int32)), .unset] [])) target → Steps p.tables e below (T0.setTop (mkF m 102 #[.val (.int i0), .val (.int i1), .val (.int i2), .val (.int i3), .val (.int i4), .val (.int i5), .val (.int i6), .val (.int i7), .val (.int i8), .val (.ref o9), .unset, .unset, .unset] [])) target := by
  have VA7_o9 := V_o9
  obtain ⟨_, _, ⟨T7, L7, k7, n7⟩, -, X7, ⟨Lc7, hQ7, l7, y7, z7⟩, st7⟩ := Jvm.LawKit.callS X0 hx (y := (⟨"com/example/restless_reasoner/restlessreasoner/engine/tableau/Premises", "isEquality", "([I)Z"⟩ : MethodName)) hown (mvT hZ (hw _ (List.mem_of_getElem? (i := 2) rfl))) (mvT hZ (hw _ (List.mem_of_getElem? (i := 3) rfl))) (mvT hZ (hw _ (List.mem_of_getElem? (i := 4) rfl))) (mvT hZ (hw _ (List.mem_of_getElem? (i := 5) rfl))) (by decide) (backOf (W := 0) (rm1 l Z a0 hw [] o9 k_o9 z_o9 vs_o9 w_o9 h0 n0 Z0 VA7_o9 hv_o9) hZ (hw _ (List.mem_of_getElem? (i := 5) rfl)) (hw _ (List.mem_of_getElem? (i := 4) rfl)) (by decide) (by decide)) (g := (mkF m 104 #[.val (.int i0), .val (.int i1), .val (.int i2), .val (.int i3), .val (.int i4), .val (.int i5), .val (.int i6), .val (.int i7), .val (.int i8), .val (.ref o9), .unset, .unset, .unset] [(.ref o9)])) rfl (by rw [hml]; rfl) (argsL := [(.ref o9)]) (rest := []) (lenOf pd_0_0 rfl) rfl (by show 2 * 0 + _ ≤ _; exact Nat.le_of_eq rfl) (hb hby at_104) (fun _ _ => ⟨rfl, e0, (Nat.le_of_ble_eq_true rfl), (Nat.le_of_ble_eq_true rfl)⟩)
  dsimp only [Pt.U, Pt.locs, Pt.cells, Pt.slots] at X7 l7 y7 z7 st7 hQ7
  subst l7 y7 z7
  obtain ⟨rfl, N7q, h7q⟩ := hQ7
  have Kq7 : Keep h0 T7.heap [] := by rw [h7q]; exact Keep.refl _ _
  have K7 : Keep h0 T7.heap [] := (Keep.refl h0 []).trans Kq7 (fun _ q => nomatch q)
  have N7 := Fr.app N0 N7q
  refine ⟨T7, _, _, X7, rfl, N7, K7, fun target kt => ?_⟩
  show Steps p.tables e below (T0.setTop (mkF m 102 #[.val (.int i0), .val (.int i1), .val (.int i2), .val (.int i3), .val (.int i4), .val (.int i5), .val (.int i6), .val (.int i7), .val (.int i8), .val (.ref o9), .unset, .unset, .unset] [])) _
  refine XS.aload X0.here hx rfl (hb hby at_102) rfl rfl ?_
  show Steps p.tables e below (T0.setTop (mkF m 104 #[.val (.int i0), .val (.int i1), .val (.int i2), .val (.int i3), .val (.int i4), .val (.int i5), .val (.int i6), .val (.int i7), .val (.int i8), .val (.ref o9), .unset, .unset, .unset] [(.ref o9)])) _
  refine st7 _ ?_
  show Steps p.tables e below (T7.setTop (mkF m 107 #[.val (.int i0), .val (.int i1), .val (.int i2), .val (.int i3), .val (.int i4), .val (.int i5), .val (.int i6), .val (.int i7), .val (.int i8), .val (.ref o9), .unset, .unset, .unset] [(.int (own_iseq z_o9 w_o9))])) _
  refine XS.istore X7.here hx rfl (hb hby at_107) rfl (l' := #[.val (.int i0), .val (.int i1), .val (.int i2), .val (.int i3), .val (.int i4), .val (.int i5), .val (.int i6), .val (.int i7), .val (.int i8), .val (.ref o9), .val (.int (own_iseq z_o9 w_o9)), .unset, .unset]) rfl ?_
  show Steps p.tables e below (T7.setTop (mkF m 109 #[.val (.int i0), .val (.int i1), .val (.int i2), .val (.int i3), .val (.int i4), .val (.int i5), .val (.int i6), .val (.int i7), .val (.int i8), .val (.ref o9), .val (.int (own_iseq z_o9 w_o9)), .unset, .unset] [])) _
  refine XS.iload X7.here hx rfl (hb hby at_109) rfl ?_
  show Steps p.tables e below (T7.setTop (mkF m 111 #[.val (.int i0), .val (.int i1), .val (.int i2), .val (.int i3), .val (.int i4), .val (.int i5), .val (.int i6), .val (.int i7), .val (.int i8), .val (.ref o9), .val (.int (own_iseq z_o9 w_o9)), .unset, .unset] [(.int i6)])) _
  refine XS.iconst X7.here hx rfl (hb hby at_111) ?_
  show Steps p.tables e below (T7.setTop (mkF m 112 #[.val (.int i0), .val (.int i1), .val (.int i2), .val (.int i3), .val (.int i4), .val (.int i5), .val (.int i6), .val (.int i7), .val (.int i8), .val (.ref o9), .val (.int (own_iseq z_o9 w_o9)), .unset, .unset] [(.int (3 : Int32)), (.int i6)])) _
  refine XS.icmpNo X7.here hx rfl (hb hby at_112) rfl (flt hc112).1 ?_
  show Steps p.tables e below (T7.setTop (mkF m 115 #[.val (.int i0), .val (.int i1), .val (.int i2), .val (.int i3), .val (.int i4), .val (.int i5), .val (.int i6), .val (.int i7), .val (.int i8), .val (.ref o9), .val (.int (own_iseq z_o9 w_o9)), .unset, .unset] [])) _
  refine XS.iload X7.here hx rfl (hb hby at_115) rfl ?_
  show Steps p.tables e below (T7.setTop (mkF m 117 #[.val (.int i0), .val (.int i1), .val (.int i2), .val (.int i3), .val (.int i4), .val (.int i5), .val (.int i6), .val (.int i7), .val (.int i8), .val (.ref o9), .val (.int (own_iseq z_o9 w_o9)), .unset, .unset] [(.int i8)])) _
  refine XS.bipush X7.here hx rfl (hb hby at_117) ?_
  show Steps p.tables e below (T7.setTop (mkF m 119 #[.val (.int i0), .val (.int i1), .val (.int i2), .val (.int i3), .val (.int i4), .val (.int i5), .val (.int i6), .val (.int i7), .val (.int i8), .val (.ref o9), .val (.int (own_iseq z_o9 w_o9)), .unset, .unset] [(.int (-2 : Int32)), (.int i8)])) _
  refine XS.icmpYes X7.here hx rfl (pc0 := 119) (pc' := 126) rfl (hb hby at_119) rfl (feq hc119).2 (by decide) (by decide) ?_
  show Steps p.tables e below (T7.setTop (mkF m 126 #[.val (.int i0), .val (.int i1), .val (.int i2), .val (.int i3), .val (.int i4), .val (.int i5), .val (.int i6), .val (.int i7), .val (.int i8), .val (.ref o9), .val (.int (own_iseq z_o9 w_o9)), .unset, .unset] [])) _
  refine XS.iconst X7.here hx rfl (hb hby at_126) ?_
  show Steps p.tables e below (T7.setTop (mkF m 127 #[.val (.int i0), .val (.int i1), .val (.int i2), .val (.int i3), .val (.int i4), .val (.int i5), .val (.int i6), .val (.int i7), .val (.int i8), .val (.ref o9), .val (.int (own_iseq z_o9 w_o9)), .unset, .unset] [(.int (0 : Int32))])) _
  refine XS.istore X7.here hx rfl (hb hby at_127) rfl (l' := #[.val (.int i0), .val (.int i1), .val (.int i2), .val (.int i3), .val (.int i4), .val (.int i5), .val (.int i6), .val (.int i7), .val (.int i8), .val (.ref o9), .val (.int (own_iseq z_o9 w_o9)), .val (.int (0 : Int32)), .unset]) rfl ?_
  show Steps p.tables e below (T7.setTop (mkF m 129 #[.val (.int i0), .val (.int i1), .val (.int i2), .val (.int i3), .val (.int i4), .val (.int i5), .val (.int i6), .val (.int i7), .val (.int i8), .val (.ref o9), .val (.int (own_iseq z_o9 w_o9)), .val (.int (0 : Int32)), .unset] [])) _
  refine XS.iload X7.here hx rfl (hb hby at_129) rfl ?_
  show Steps p.tables e below (T7.setTop (mkF m 131 #[.val (.int i0), .val (.int i1), .val (.int i2), .val (.int i3), .val (.int i4), .val (.int i5), .val (.int i6), .val (.int i7), .val (.int i8), .val (.ref o9), .val (.int (own_iseq z_o9 w_o9)), .val (.int (0 : Int32)), .unset] [(.int (own_iseq z_o9 w_o9))])) _
  refine XS.iload X7.here hx rfl (hb hby at_131) rfl ?_
  show Steps p.tables e below (T7.setTop (mkF m 133 #[.val (.int i0), .val (.int i1), .val (.int i2), .val (.int i3), .val (.int i4), .val (.int i5), .val (.int i6), .val (.int i7), .val (.int i8), .val (.ref o9), .val (.int (own_iseq z_o9 w_o9)), .val (.int (0 : Int32)), .unset] [(.int (0 : Int32)), (.int (own_iseq z_o9 w_o9))])) _
  refine XS.icmpYes X7.here hx rfl (pc0 := 133) (pc' := 138) rfl (hb hby at_133) rfl (teq hc133).1 (by decide) (by decide) ?_
  show Steps p.tables e below (T7.setTop (mkF m 138 #[.val (.int i0), .val (.int i1), .val (.int i2), .val (.int i3), .val (.int i4), .val (.int i5), .val (.int i6), .val (.int i7), .val (.int i8), .val (.ref o9), .val (.int (own_iseq z_o9 w_o9)), .val (.int (0 : Int32)), .unset] [])) _
  refine XS.iload X7.here hx rfl (hb hby at_138) rfl ?_
  show Steps p.tables e below (T7.setTop (mkF m 140 #[.val (.int i0), .val (.int i1), .val (.int i2), .val (.int i3), .val (.int i4), .val (.int i5), .val (.int i6), .val (.int i7), .val (.int i8), .val (.ref o9), .val (.int (own_iseq z_o9 w_o9)), .val (.int (0 : Int32)), .unset] [(.int (own_iseq z_o9 w_o9))])) _
  refine XS.ifYes X7.here hx rfl (pc0 := 140) (pc' := 169) rfl (hb hby at_140) rfl ((if0 _ _).trans (teq hc140).1) (by decide) (by decide) ?_
  exact kt
set_option maxRecDepth 65536 in
set_option maxHeartbeats 40000000 in
theorem sgC_fftffft {p : Program} {l : Launch} {e : Env} {s : State} {m : MethodId} {args : Array Value} {below : List Frame} {meth : Method} {c : Code} {T0 : State} {locs : List Loc} {Z : State} {a0 : Array Value} {h0 : Heap} {n0 : Nat} (i0 : Int32) (i1 : Int32) (i2 : Int32) (i3 : Int32) (i4 : Int32) (i5 : Int32) (i6 : Int32) (i7 : Int32) (i8 : Int32) (o9 : Addr) (k_o9 : ClassId) (z_o9 : Int32) (vs_o9 : List Value) (w_o9 : Int32)
    (X0 : Stand p l e room_1 s m args below meth c T0 locs 1 5) (hx : p.tables.exec = Jvm.exec) (hZ : Z.Warmed39 s.vm) (hw : ∀ d ∈ tables_1, d.before a0 Z = true) (hby : c.code = code) (hml : c.maxLocals = 13) (hown : s.vm.findClass "com/example/restless_reasoner/restlessreasoner/engine/tableau/PremisesIsEqualityPinLaw" = some m.cls) (e0 : T0.heap = h0) (Z0 : n0 ≤ h0.size) (N0 : Fr n0 locs) (V_o9 : Arv Z h0 o9 k_o9 .int z_o9 vs_o9 (.int (0 : Int32))) (hv_o9 : (1 : Int32) < z_o9 → vs_o9.getD 1 (.int (0 : Int32)) = .int w_o9) (hc112 : ¬ (i6 < (3 : Int32))) (hc119 : i8 = (-2 : Int32)) (hc133 : (own_iseq z_o9 w_o9) = (1 : Int32)) (hc140 : ¬ ((own_iseq z_o9 w_o9) = (0 : Int32))) (hc148 : (own_isne z_o9 w_o9) = (0 : Int32)) (hc156 : (own_link z_o9 w_o9) = (0 : Int32)) (hc164 : (own_memb z_o9 w_o9) = (0 : Int32)) :
    ∃ (T' : State) (h' : Heap) (locs' : List Loc), Stand p l e room_1 s m args below meth c T' locs' 1 5 ∧ T'.heap = h' ∧ Fr n0 locs' ∧ Keep h0 h' [] ∧
      ∀ target, Steps p.tables e below (T'.setTop (mkF m 169 #[.val (.int i0), .val (.int i1), .val (.int i2), .val (.int i3), .val (.int i4), .val (.int i5), .val (.int i6), .val (.int i7), .val (.int i8), .val (.ref o9), .val (.int (own_iseq z_o9 w_o9)), .val (.int (1 : Int32)), .unset] [])) target → Steps p.tables e below (T0.setTop (mkF m 102 #[.val (.int i0), .val (.int i1), .val (.int i2), .val (.int i3), .val (.int i4), .val (.int i5), .val (.int i6), .val (.int i7), .val (.int i8), .val (.ref o9), .unset, .unset, .unset] [])) target := by
  have VA7_o9 := V_o9
  obtain ⟨_, _, ⟨T7, L7, k7, n7⟩, -, X7, ⟨Lc7, hQ7, l7, y7, z7⟩, st7⟩ := Jvm.LawKit.callS X0 hx (y := (⟨"com/example/restless_reasoner/restlessreasoner/engine/tableau/Premises", "isEquality", "([I)Z"⟩ : MethodName)) hown (mvT hZ (hw _ (List.mem_of_getElem? (i := 2) rfl))) (mvT hZ (hw _ (List.mem_of_getElem? (i := 3) rfl))) (mvT hZ (hw _ (List.mem_of_getElem? (i := 4) rfl))) (mvT hZ (hw _ (List.mem_of_getElem? (i := 5) rfl))) (by decide) (backOf (W := 0) (rm1 l Z a0 hw [] o9 k_o9 z_o9 vs_o9 w_o9 h0 n0 Z0 VA7_o9 hv_o9) hZ (hw _ (List.mem_of_getElem? (i := 5) rfl)) (hw _ (List.mem_of_getElem? (i := 4) rfl)) (by decide) (by decide)) (g := (mkF m 104 #[.val (.int i0), .val (.int i1), .val (.int i2), .val (.int i3), .val (.int i4), .val (.int i5), .val (.int i6), .val (.int i7), .val (.int i8), .val (.ref o9), .unset, .unset, .unset] [(.ref o9)])) rfl (by rw [hml]; rfl) (argsL := [(.ref o9)]) (rest := []) (lenOf pd_0_0 rfl) rfl (by show 2 * 0 + _ ≤ _; exact Nat.le_of_eq rfl) (hb hby at_104) (fun _ _ => ⟨rfl, e0, (Nat.le_of_ble_eq_true rfl), (Nat.le_of_ble_eq_true rfl)⟩)
  dsimp only [Pt.U, Pt.locs, Pt.cells, Pt.slots] at X7 l7 y7 z7 st7 hQ7
  subst l7 y7 z7
  obtain ⟨rfl, N7q, h7q⟩ := hQ7
  have Kq7 : Keep h0 T7.heap [] := by rw [h7q]; exact Keep.refl _ _
  have K7 : Keep h0 T7.heap [] := (Keep.refl h0 []).trans Kq7 (fun _ q => nomatch q)
  have N7 := Fr.app N0 N7q
  have VA8_o9 := (V_o9.keep Kq7 List.not_mem_nil)
  obtain ⟨_, _, ⟨T8, L8, k8, n8⟩, -, X8, ⟨Lc8, hQ8, l8, y8, z8⟩, st8⟩ := Jvm.LawKit.callS X7 hx (y := (⟨"com/example/restless_reasoner/restlessreasoner/engine/tableau/Premises", "isInequality", "([I)Z"⟩ : MethodName)) hown (mvT hZ (hw _ (List.mem_of_getElem? (i := 13) rfl))) (mvT hZ (hw _ (List.mem_of_getElem? (i := 14) rfl))) (mvT hZ (hw _ (List.mem_of_getElem? (i := 4) rfl))) (mvT hZ (hw _ (List.mem_of_getElem? (i := 15) rfl))) (by decide) (backOf (W := 0) (rm3 l Z a0 hw [] o9 k_o9 z_o9 vs_o9 w_o9 T7.heap n0 (Nat.le_trans Z0 K7.1) VA8_o9 hv_o9) hZ (hw _ (List.mem_of_getElem? (i := 15) rfl)) (hw _ (List.mem_of_getElem? (i := 4) rfl)) (by decide) (by decide)) (g := (mkF m 145 #[.val (.int i0), .val (.int i1), .val (.int i2), .val (.int i3), .val (.int i4), .val (.int i5), .val (.int i6), .val (.int i7), .val (.int i8), .val (.ref o9), .val (.int (own_iseq z_o9 w_o9)), .val (.int (1 : Int32)), .unset] [(.ref o9)])) rfl (by rw [hml]; rfl) (argsL := [(.ref o9)]) (rest := []) (lenOf pd_0_0 rfl) rfl (by show 2 * 0 + _ ≤ _; exact Nat.le_of_eq rfl) (hb hby at_145) (fun _ _ => ⟨rfl, rfl, (Nat.le_of_ble_eq_true rfl), (Nat.le_of_ble_eq_true rfl)⟩)
  dsimp only [Pt.U, Pt.locs, Pt.cells, Pt.slots] at X8 l8 y8 z8 st8 hQ8
  subst l8 y8 z8
  obtain ⟨rfl, N8q, h8q⟩ := hQ8
  have Kq8 : Keep T7.heap T8.heap [] := by rw [h8q]; exact Keep.refl _ _
  have K8 : Keep h0 T8.heap [] := K7.trans Kq8 (fun _ q => nomatch q)
  have N8 := Fr.app N7 N8q
  have VA9_o9 := ((V_o9.keep Kq7 List.not_mem_nil).keep Kq8 List.not_mem_nil)
  obtain ⟨_, _, ⟨T9, L9, k9, n9⟩, -, X9, ⟨Lc9, hQ9, l9, y9, z9⟩, st9⟩ := Jvm.LawKit.callS X8 hx (y := (⟨"com/example/restless_reasoner/restlessreasoner/engine/tableau/Premises", "isLink", "([I)Z"⟩ : MethodName)) hown (mvT hZ (hw _ (List.mem_of_getElem? (i := 16) rfl))) (mvT hZ (hw _ (List.mem_of_getElem? (i := 17) rfl))) (mvT hZ (hw _ (List.mem_of_getElem? (i := 4) rfl))) (mvT hZ (hw _ (List.mem_of_getElem? (i := 18) rfl))) (by decide) (backOf (W := 0) (rm4 l Z a0 hw [] o9 k_o9 z_o9 vs_o9 w_o9 T8.heap n0 (Nat.le_trans Z0 K8.1) VA9_o9 hv_o9) hZ (hw _ (List.mem_of_getElem? (i := 18) rfl)) (hw _ (List.mem_of_getElem? (i := 4) rfl)) (by decide) (by decide)) (g := (mkF m 153 #[.val (.int i0), .val (.int i1), .val (.int i2), .val (.int i3), .val (.int i4), .val (.int i5), .val (.int i6), .val (.int i7), .val (.int i8), .val (.ref o9), .val (.int (own_iseq z_o9 w_o9)), .val (.int (1 : Int32)), .unset] [(.ref o9)])) rfl (by rw [hml]; rfl) (argsL := [(.ref o9)]) (rest := []) (lenOf pd_0_0 rfl) rfl (by show 2 * 0 + _ ≤ _; exact Nat.le_of_eq rfl) (hb hby at_153) (fun _ _ => ⟨rfl, rfl, (Nat.le_of_ble_eq_true rfl), (Nat.le_of_ble_eq_true rfl)⟩)
  dsimp only [Pt.U, Pt.locs, Pt.cells, Pt.slots] at X9 l9 y9 z9 st9 hQ9
  subst l9 y9 z9
  obtain ⟨rfl, N9q, h9q⟩ := hQ9
  have Kq9 : Keep T8.heap T9.heap [] := by rw [h9q]; exact Keep.refl _ _
  have K9 : Keep h0 T9.heap [] := K8.trans Kq9 (fun _ q => nomatch q)
  have N9 := Fr.app N8 N9q
  have VA10_o9 := (((V_o9.keep Kq7 List.not_mem_nil).keep Kq8 List.not_mem_nil).keep Kq9 List.not_mem_nil)
  obtain ⟨_, _, ⟨T10, L10, k10, n10⟩, -, X10, ⟨Lc10, hQ10, l10, y10, z10⟩, st10⟩ := Jvm.LawKit.callS X9 hx (y := (⟨"com/example/restless_reasoner/restlessreasoner/engine/tableau/Premises", "isMembership", "([I)Z"⟩ : MethodName)) hown (mvT hZ (hw _ (List.mem_of_getElem? (i := 19) rfl))) (mvT hZ (hw _ (List.mem_of_getElem? (i := 20) rfl))) (mvT hZ (hw _ (List.mem_of_getElem? (i := 4) rfl))) (mvT hZ (hw _ (List.mem_of_getElem? (i := 21) rfl))) (by decide) (backOf (W := 0) (rm5 l Z a0 hw [] o9 k_o9 z_o9 vs_o9 w_o9 T9.heap n0 (Nat.le_trans Z0 K9.1) VA10_o9 hv_o9) hZ (hw _ (List.mem_of_getElem? (i := 21) rfl)) (hw _ (List.mem_of_getElem? (i := 4) rfl)) (by decide) (by decide)) (g := (mkF m 161 #[.val (.int i0), .val (.int i1), .val (.int i2), .val (.int i3), .val (.int i4), .val (.int i5), .val (.int i6), .val (.int i7), .val (.int i8), .val (.ref o9), .val (.int (own_iseq z_o9 w_o9)), .val (.int (1 : Int32)), .unset] [(.ref o9)])) rfl (by rw [hml]; rfl) (argsL := [(.ref o9)]) (rest := []) (lenOf pd_0_0 rfl) rfl (by show 2 * 0 + _ ≤ _; exact Nat.le_of_eq rfl) (hb hby at_161) (fun _ _ => ⟨rfl, rfl, (Nat.le_of_ble_eq_true rfl), (Nat.le_of_ble_eq_true rfl)⟩)
  dsimp only [Pt.U, Pt.locs, Pt.cells, Pt.slots] at X10 l10 y10 z10 st10 hQ10
  subst l10 y10 z10
  obtain ⟨rfl, N10q, h10q⟩ := hQ10
  have Kq10 : Keep T9.heap T10.heap [] := by rw [h10q]; exact Keep.refl _ _
  have K10 : Keep h0 T10.heap [] := K9.trans Kq10 (fun _ q => nomatch q)
  have N10 := Fr.app N9 N10q
  refine ⟨T10, _, _, X10, rfl, N10, K10, fun target kt => ?_⟩
  show Steps p.tables e below (T0.setTop (mkF m 102 #[.val (.int i0), .val (.int i1), .val (.int i2), .val (.int i3), .val (.int i4), .val (.int i5), .val (.int i6), .val (.int i7), .val (.int i8), .val (.ref o9), .unset, .unset, .unset] [])) _
  refine XS.aload X0.here hx rfl (hb hby at_102) rfl rfl ?_
  show Steps p.tables e below (T0.setTop (mkF m 104 #[.val (.int i0), .val (.int i1), .val (.int i2), .val (.int i3), .val (.int i4), .val (.int i5), .val (.int i6), .val (.int i7), .val (.int i8), .val (.ref o9), .unset, .unset, .unset] [(.ref o9)])) _
  refine st7 _ ?_
  show Steps p.tables e below (T7.setTop (mkF m 107 #[.val (.int i0), .val (.int i1), .val (.int i2), .val (.int i3), .val (.int i4), .val (.int i5), .val (.int i6), .val (.int i7), .val (.int i8), .val (.ref o9), .unset, .unset, .unset] [(.int (own_iseq z_o9 w_o9))])) _
  refine XS.istore X7.here hx rfl (hb hby at_107) rfl (l' := #[.val (.int i0), .val (.int i1), .val (.int i2), .val (.int i3), .val (.int i4), .val (.int i5), .val (.int i6), .val (.int i7), .val (.int i8), .val (.ref o9), .val (.int (own_iseq z_o9 w_o9)), .unset, .unset]) rfl ?_
  show Steps p.tables e below (T7.setTop (mkF m 109 #[.val (.int i0), .val (.int i1), .val (.int i2), .val (.int i3), .val (.int i4), .val (.int i5), .val (.int i6), .val (.int i7), .val (.int i8), .val (.ref o9), .val (.int (own_iseq z_o9 w_o9)), .unset, .unset] [])) _
  refine XS.iload X7.here hx rfl (hb hby at_109) rfl ?_
  show Steps p.tables e below (T7.setTop (mkF m 111 #[.val (.int i0), .val (.int i1), .val (.int i2), .val (.int i3), .val (.int i4), .val (.int i5), .val (.int i6), .val (.int i7), .val (.int i8), .val (.ref o9), .val (.int (own_iseq z_o9 w_o9)), .unset, .unset] [(.int i6)])) _
  refine XS.iconst X7.here hx rfl (hb hby at_111) ?_
  show Steps p.tables e below (T7.setTop (mkF m 112 #[.val (.int i0), .val (.int i1), .val (.int i2), .val (.int i3), .val (.int i4), .val (.int i5), .val (.int i6), .val (.int i7), .val (.int i8), .val (.ref o9), .val (.int (own_iseq z_o9 w_o9)), .unset, .unset] [(.int (3 : Int32)), (.int i6)])) _
  refine XS.icmpNo X7.here hx rfl (hb hby at_112) rfl (flt hc112).1 ?_
  show Steps p.tables e below (T7.setTop (mkF m 115 #[.val (.int i0), .val (.int i1), .val (.int i2), .val (.int i3), .val (.int i4), .val (.int i5), .val (.int i6), .val (.int i7), .val (.int i8), .val (.ref o9), .val (.int (own_iseq z_o9 w_o9)), .unset, .unset] [])) _
  refine XS.iload X7.here hx rfl (hb hby at_115) rfl ?_
  show Steps p.tables e below (T7.setTop (mkF m 117 #[.val (.int i0), .val (.int i1), .val (.int i2), .val (.int i3), .val (.int i4), .val (.int i5), .val (.int i6), .val (.int i7), .val (.int i8), .val (.ref o9), .val (.int (own_iseq z_o9 w_o9)), .unset, .unset] [(.int i8)])) _
  refine XS.bipush X7.here hx rfl (hb hby at_117) ?_
  show Steps p.tables e below (T7.setTop (mkF m 119 #[.val (.int i0), .val (.int i1), .val (.int i2), .val (.int i3), .val (.int i4), .val (.int i5), .val (.int i6), .val (.int i7), .val (.int i8), .val (.ref o9), .val (.int (own_iseq z_o9 w_o9)), .unset, .unset] [(.int (-2 : Int32)), (.int i8)])) _
  refine XS.icmpNo X7.here hx rfl (hb hby at_119) rfl (teq hc119).2 ?_
  show Steps p.tables e below (T7.setTop (mkF m 122 #[.val (.int i0), .val (.int i1), .val (.int i2), .val (.int i3), .val (.int i4), .val (.int i5), .val (.int i6), .val (.int i7), .val (.int i8), .val (.ref o9), .val (.int (own_iseq z_o9 w_o9)), .unset, .unset] [])) _
  refine XS.iconst X7.here hx rfl (hb hby at_122) ?_
  show Steps p.tables e below (T7.setTop (mkF m 123 #[.val (.int i0), .val (.int i1), .val (.int i2), .val (.int i3), .val (.int i4), .val (.int i5), .val (.int i6), .val (.int i7), .val (.int i8), .val (.ref o9), .val (.int (own_iseq z_o9 w_o9)), .unset, .unset] [(.int (1 : Int32))])) _
  refine XS.goto X7.here hx rfl (pc0 := 123) (pc' := 127) rfl (hb hby at_123) (by decide) (by decide) ?_
  show Steps p.tables e below (T7.setTop (mkF m 127 #[.val (.int i0), .val (.int i1), .val (.int i2), .val (.int i3), .val (.int i4), .val (.int i5), .val (.int i6), .val (.int i7), .val (.int i8), .val (.ref o9), .val (.int (own_iseq z_o9 w_o9)), .unset, .unset] [(.int (1 : Int32))])) _
  refine XS.istore X7.here hx rfl (hb hby at_127) rfl (l' := #[.val (.int i0), .val (.int i1), .val (.int i2), .val (.int i3), .val (.int i4), .val (.int i5), .val (.int i6), .val (.int i7), .val (.int i8), .val (.ref o9), .val (.int (own_iseq z_o9 w_o9)), .val (.int (1 : Int32)), .unset]) rfl ?_
  show Steps p.tables e below (T7.setTop (mkF m 129 #[.val (.int i0), .val (.int i1), .val (.int i2), .val (.int i3), .val (.int i4), .val (.int i5), .val (.int i6), .val (.int i7), .val (.int i8), .val (.ref o9), .val (.int (own_iseq z_o9 w_o9)), .val (.int (1 : Int32)), .unset] [])) _
  refine XS.iload X7.here hx rfl (hb hby at_129) rfl ?_
  show Steps p.tables e below (T7.setTop (mkF m 131 #[.val (.int i0), .val (.int i1), .val (.int i2), .val (.int i3), .val (.int i4), .val (.int i5), .val (.int i6), .val (.int i7), .val (.int i8), .val (.ref o9), .val (.int (own_iseq z_o9 w_o9)), .val (.int (1 : Int32)), .unset] [(.int (own_iseq z_o9 w_o9))])) _
  refine XS.iload X7.here hx rfl (hb hby at_131) rfl ?_
  show Steps p.tables e below (T7.setTop (mkF m 133 #[.val (.int i0), .val (.int i1), .val (.int i2), .val (.int i3), .val (.int i4), .val (.int i5), .val (.int i6), .val (.int i7), .val (.int i8), .val (.ref o9), .val (.int (own_iseq z_o9 w_o9)), .val (.int (1 : Int32)), .unset] [(.int (1 : Int32)), (.int (own_iseq z_o9 w_o9))])) _
  refine XS.icmpYes X7.here hx rfl (pc0 := 133) (pc' := 138) rfl (hb hby at_133) rfl (teq hc133).1 (by decide) (by decide) ?_
  show Steps p.tables e below (T7.setTop (mkF m 138 #[.val (.int i0), .val (.int i1), .val (.int i2), .val (.int i3), .val (.int i4), .val (.int i5), .val (.int i6), .val (.int i7), .val (.int i8), .val (.ref o9), .val (.int (own_iseq z_o9 w_o9)), .val (.int (1 : Int32)), .unset] [])) _
  refine XS.iload X7.here hx rfl (hb hby at_138) rfl ?_
  show Steps p.tables e below (T7.setTop (mkF m 140 #[.val (.int i0), .val (.int i1), .val (.int i2), .val (.int i3), .val (.int i4), .val (.int i5), .val (.int i6), .val (.int i7), .val (.int i8), .val (.ref o9), .val (.int (own_iseq z_o9 w_o9)), .val (.int (1 : Int32)), .unset] [(.int (own_iseq z_o9 w_o9))])) _
  refine XS.ifNo X7.here hx rfl (hb hby at_140) rfl ((if0 _ _).trans (feq hc140).1) ?_
  show Steps p.tables e below (T7.setTop (mkF m 143 #[.val (.int i0), .val (.int i1), .val (.int i2), .val (.int i3), .val (.int i4), .val (.int i5), .val (.int i6), .val (.int i7), .val (.int i8), .val (.ref o9), .val (.int (own_iseq z_o9 w_o9)), .val (.int (1 : Int32)), .unset] [])) _
  refine XS.aload X7.here hx rfl (hb hby at_143) rfl rfl ?_
  show Steps p.tables e below (T7.setTop (mkF m 145 #[.val (.int i0), .val (.int i1), .val (.int i2), .val (.int i3), .val (.int i4), .val (.int i5), .val (.int i6), .val (.int i7), .val (.int i8), .val (.ref o9), .val (.int (own_iseq z_o9 w_o9)), .val (.int (1 : Int32)), .unset] [(.ref o9)])) _
  refine st8 _ ?_
  show Steps p.tables e below (T8.setTop (mkF m 148 #[.val (.int i0), .val (.int i1), .val (.int i2), .val (.int i3), .val (.int i4), .val (.int i5), .val (.int i6), .val (.int i7), .val (.int i8), .val (.ref o9), .val (.int (own_iseq z_o9 w_o9)), .val (.int (1 : Int32)), .unset] [(.int (own_isne z_o9 w_o9))])) _
  refine XS.ifNo X8.here hx rfl (hb hby at_148) rfl ((if0 _ _).trans (teq hc148).2) ?_
  show Steps p.tables e below (T8.setTop (mkF m 151 #[.val (.int i0), .val (.int i1), .val (.int i2), .val (.int i3), .val (.int i4), .val (.int i5), .val (.int i6), .val (.int i7), .val (.int i8), .val (.ref o9), .val (.int (own_iseq z_o9 w_o9)), .val (.int (1 : Int32)), .unset] [])) _
  refine XS.aload X8.here hx rfl (hb hby at_151) rfl rfl ?_
  show Steps p.tables e below (T8.setTop (mkF m 153 #[.val (.int i0), .val (.int i1), .val (.int i2), .val (.int i3), .val (.int i4), .val (.int i5), .val (.int i6), .val (.int i7), .val (.int i8), .val (.ref o9), .val (.int (own_iseq z_o9 w_o9)), .val (.int (1 : Int32)), .unset] [(.ref o9)])) _
  refine st9 _ ?_
  show Steps p.tables e below (T9.setTop (mkF m 156 #[.val (.int i0), .val (.int i1), .val (.int i2), .val (.int i3), .val (.int i4), .val (.int i5), .val (.int i6), .val (.int i7), .val (.int i8), .val (.ref o9), .val (.int (own_iseq z_o9 w_o9)), .val (.int (1 : Int32)), .unset] [(.int (own_link z_o9 w_o9))])) _
  refine XS.ifNo X9.here hx rfl (hb hby at_156) rfl ((if0 _ _).trans (teq hc156).2) ?_
  show Steps p.tables e below (T9.setTop (mkF m 159 #[.val (.int i0), .val (.int i1), .val (.int i2), .val (.int i3), .val (.int i4), .val (.int i5), .val (.int i6), .val (.int i7), .val (.int i8), .val (.ref o9), .val (.int (own_iseq z_o9 w_o9)), .val (.int (1 : Int32)), .unset] [])) _
  refine XS.aload X9.here hx rfl (hb hby at_159) rfl rfl ?_
  show Steps p.tables e below (T9.setTop (mkF m 161 #[.val (.int i0), .val (.int i1), .val (.int i2), .val (.int i3), .val (.int i4), .val (.int i5), .val (.int i6), .val (.int i7), .val (.int i8), .val (.ref o9), .val (.int (own_iseq z_o9 w_o9)), .val (.int (1 : Int32)), .unset] [(.ref o9)])) _
  refine st10 _ ?_
  show Steps p.tables e below (T10.setTop (mkF m 164 #[.val (.int i0), .val (.int i1), .val (.int i2), .val (.int i3), .val (.int i4), .val (.int i5), .val (.int i6), .val (.int i7), .val (.int i8), .val (.ref o9), .val (.int (own_iseq z_o9 w_o9)), .val (.int (1 : Int32)), .unset] [(.int (own_memb z_o9 w_o9))])) _
  refine XS.ifYes X10.here hx rfl (pc0 := 164) (pc' := 169) rfl (hb hby at_164) rfl ((if0 _ _).trans (teq hc164).1) (by decide) (by decide) ?_
  exact kt
set_option maxRecDepth 65536 in
set_option maxHeartbeats 40000000 in
theorem sgC {p : Program} {l : Launch} {e : Env} {s : State} {m : MethodId} {args : Array Value} {below : List Frame} {meth : Method} {c : Code} {T0 : State} {locs : List Loc} {Z : State} {a0 : Array Value} {h0 : Heap} {n0 : Nat} (i0 : Int32) (i1 : Int32) (i2 : Int32) (i3 : Int32) (i4 : Int32) (i5 : Int32) (i6 : Int32) (i7 : Int32) (i8 : Int32) (o9 : Addr) (k_o9 : ClassId) (vs_o9 : List Value)
    (X0 : Stand p l e room_1 s m args below meth c T0 locs 1 5) (hx : p.tables.exec = Jvm.exec) (hZ : Z.Warmed39 s.vm) (hw : ∀ d ∈ tables_1, d.before a0 Z = true) (hby : c.code = code) (hml : c.maxLocals = 13) (hown : s.vm.findClass "com/example/restless_reasoner/restlessreasoner/engine/tableau/PremisesIsEqualityPinLaw" = some m.cls) (e0 : T0.heap = h0) (Z0 : n0 ≤ h0.size) (N0 : Fr n0 locs) (V : Arv Z h0 o9 k_o9 .int i6 vs_o9 (.int (0 : Int32))) (hv : (1 : Int32) < i6 → vs_o9.getD 1 (.int (0 : Int32)) = .int i8) :
    ∃ (T' : State) (h' : Heap) (locs' : List Loc) (x y : Int32), Stand p l e room_1 s m args below meth c T' locs' 1 5 ∧ T'.heap = h' ∧ Fr n0 locs' ∧ Keep h0 h' [] ∧
      ∀ target, Steps p.tables e below (T'.setTop (mkF m 169 #[.val (.int i0), .val (.int i1), .val (.int i2), .val (.int i3), .val (.int i4), .val (.int i5), .val (.int i6), .val (.int i7), .val (.int i8), .val (.ref o9), .val (.int x), .val (.int y), .unset] [])) target → Steps p.tables e below (T0.setTop (mkF m 102 #[.val (.int i0), .val (.int i1), .val (.int i2), .val (.int i3), .val (.int i4), .val (.int i5), .val (.int i6), .val (.int i7), .val (.int i8), .val (.ref o9), .unset, .unset, .unset] [])) target := by
  by_cases h3 : i6 < (3 : Int32)
  · obtain ⟨T', h', locs', X', e', N', K', st⟩ := sgC_ttt i0 i1 i2 i3 i4 i5 i6 i7 i8 o9 k_o9 i6 vs_o9 i8 X0 hx hZ hw hby hml hown e0 Z0 N0 V hv h3 (own_c0 h3) (own_c0 h3)
    exact ⟨T', h', locs', _, _, X', e', N', K', st⟩
  · by_cases h2 : i8 = (-2 : Int32)
    · obtain ⟨a, b, d, g⟩ := own_c2 h3 h2
      obtain ⟨T', h', locs', X', e', N', K', st⟩ := sgC_fftffft i0 i1 i2 i3 i4 i5 i6 i7 i8 o9 k_o9 i6 vs_o9 i8 X0 hx hZ hw hby hml hown e0 Z0 N0 V hv h3 h2 a (by rw [a]; decide) b d g
      exact ⟨T', h', locs', _, _, X', e', N', K', st⟩
    · obtain ⟨T', h', locs', X', e', N', K', st⟩ := sgC_fttt i0 i1 i2 i3 i4 i5 i6 i7 i8 o9 k_o9 i6 vs_o9 i8 X0 hx hZ hw hby hml hown e0 Z0 N0 V hv h3 h2 (own_c1 h3 h2) (own_c1 h3 h2)
      exact ⟨T', h', locs', _, _, X', e', N', K', st⟩
set_option maxRecDepth 65536 in
set_option maxHeartbeats 40000000 in
theorem sgD2 {p : Program} {l : Launch} {e : Env} {s : State} {m : MethodId} {args : Array Value} {below : List Frame} {meth : Method} {c : Code} {T0 : State} {locs : List Loc} {Z : State} {a0 : Array Value} {h0 : Heap} {n0 : Nat} (i0 : Int32) (i1 : Int32) (i2 : Int32) (i3 : Int32) (i4 : Int32) (i5 : Int32) (i6 : Int32) (i7 : Int32) (i8 : Int32) (o9 : Addr) (i10 : Int32) (i11 : Int32)
    (X0 : Stand p l e room_1 s m args below meth c T0 locs 1 5) (hx : p.tables.exec = Jvm.exec) (hZ : Z.Warmed39 s.vm) (hw : ∀ d ∈ tables_1, d.before a0 Z = true) (hby : c.code = code) (hml : c.maxLocals = 13) (hown : s.vm.findClass "com/example/restless_reasoner/restlessreasoner/engine/tableau/PremisesIsEqualityPinLaw" = some m.cls) (e0 : T0.heap = h0) (Z0 : n0 ≤ h0.size) (N0 : Fr n0 locs) (hc175 : (((i5.toUInt32 >>> ((2 : Int32) &&& 31).toUInt32).toInt32) &&& (1 : Int32)) = (0 : Int32)) :
    ∃ (T' : State) (h' : Heap) (locs' : List Loc) (b7 : Addr) (k7 : ClassId), Stand p l e room_1 s m args below meth c T' locs' 2 8 ∧ T'.heap = h' ∧ Fr n0 locs' ∧ Keep h0 h' [] ∧ n0 ≤ b7 ∧ h0.size ≤ b7 ∧ Arv Z h' b7 k7 .int (2 : Int32) [(.int i1), (.int i3)] (.int (0 : Int32)) ∧
      ∀ target, Steps p.tables e below (T'.setTop (mkF m 210 #[.val (.int i0), .val (.int i1), .val (.int i2), .val (.int i3), .val (.int i4), .val (.int i5), .val (.int i6), .val (.int i7), .val (.int i8), .val (.ref o9), .val (.int i10), .val (.int i11), .val (.ref b7)] [])) target → Steps p.tables e below (T0.setTop (mkF m 169 #[.val (.int i0), .val (.int i1), .val (.int i2), .val (.int i3), .val (.int i4), .val (.int i5), .val (.int i6), .val (.int i7), .val (.int i8), .val (.ref o9), .val (.int i10), .val (.int i11), .unset] [])) target := by
  obtain ⟨T7, h7, k7, X7, e7, E7, A7, st7⟩ := newP X0 hx hZ (hw _ (List.mem_of_getElem? (i := 1) rfl)) e0 (g := (mkF m 179 #[.val (.int i0), .val (.int i1), .val (.int i2), .val (.int i3), .val (.int i4), .val (.int i5), .val (.int i6), .val (.int i7), .val (.int i8), .val (.ref o9), .val (.int i10), .val (.int i11), .unset] [(.int (2 : Int32))])) rfl (hb hby at_179) rfl (by decide) (cap := 3) (by decide) (by decide) (by decide) (by decide)
  obtain ⟨b7, g7⟩ : ∃ z, z = h0.size := ⟨_, rfl⟩
  rw [← g7] at A7 st7
  have V_b7 : Arv Z h7 b7 k7 .int (2 : Int32) [(.int (0 : Int32)), (.int (0 : Int32))] (.int (0 : Int32)) := (Arv.new A7 (by decide)).pad (pad_rep [] (.int (0 : Int32)) 2)
  have g_b7 : n0 ≤ b7 := Nat.le_trans Z0 (Nat.le_of_eq g7.symm)
  have sz_b7 : h0.size ≤ b7 := (Nat.le_trans (Keep.refl h0 []).1 (Nat.le_of_eq g7.symm))
  have K7 : Keep h0 h7 [] := (Keep.refl h0 []).ext E7
  obtain ⟨cl_b7_184, Ar_b7, q_b7, S_b7, N_b7, H_b7, G_b7⟩ := V_b7
  have hin184 : ¬ ((0 : Int32) < 0 ∨ cl_b7_184.slots.size ≤ ((0 : Int32)).toNatClampNeg) := inb_of S_b7 ⟨by decide, by decide⟩
  obtain ⟨T8, h8, X8, e8, W8, st8⟩ := stI X7 hx hZ e7 Ar_b7 (j := (0 : Int32)) hin184 (g := (mkF m 184 #[.val (.int i0), .val (.int i1), .val (.int i2), .val (.int i3), .val (.int i4), .val (.int i5), .val (.int i6), .val (.int i7), .val (.int i8), .val (.ref o9), .val (.int i10), .val (.int i11), .unset] [(.int i1), (.int (0 : Int32)), (.ref b7), (.ref b7)])) rfl rfl (hb hby at_184)
  have V_b7_8 := Arv.set Ar_b7 q_b7 S_b7 N_b7 H_b7 G_b7 rfl W8 0 rfl (Nat.le_of_ble_eq_true rfl)
  have K8 : Keep h0 h8 [] := K7.wr W8 (Or.inr sz_b7)
  have N8 := Fr.snoc X8 N0 g_b7
  obtain ⟨cl_b7_188, Ar_b7, q_b7, S_b7, N_b7, H_b7, G_b7⟩ := V_b7_8
  have hin188 : ¬ ((1 : Int32) < 0 ∨ cl_b7_188.slots.size ≤ ((1 : Int32)).toNatClampNeg) := inb_of S_b7 ⟨by decide, by decide⟩
  obtain ⟨T9, h9, X9, e9, W9, st9⟩ := stI X8 hx hZ e8 Ar_b7 (j := (1 : Int32)) hin188 (g := (mkF m 188 #[.val (.int i0), .val (.int i1), .val (.int i2), .val (.int i3), .val (.int i4), .val (.int i5), .val (.int i6), .val (.int i7), .val (.int i8), .val (.ref o9), .val (.int i10), .val (.int i11), .unset] [(.int i3), (.int (1 : Int32)), (.ref b7), (.ref b7)])) rfl rfl (hb hby at_188)
  have V_b7_9 := Arv.set Ar_b7 q_b7 S_b7 N_b7 H_b7 G_b7 rfl W9 1 rfl (Nat.le_of_ble_eq_true rfl)
  have K9 : Keep h0 h9 [] := K8.wr W9 (Or.inr sz_b7)
  have N9 := Fr.snoc X9 N8 g_b7
  refine ⟨T9, _, _, b7, k7, X9, e9, N9, K9, g_b7, sz_b7, V_b7_9, fun target kt => ?_⟩
  show Steps p.tables e below (T0.setTop (mkF m 169 #[.val (.int i0), .val (.int i1), .val (.int i2), .val (.int i3), .val (.int i4), .val (.int i5), .val (.int i6), .val (.int i7), .val (.int i8), .val (.ref o9), .val (.int i10), .val (.int i11), .unset] [])) _
  refine XS.iload X0.here hx rfl (hb hby at_169) rfl ?_
  show Steps p.tables e below (T0.setTop (mkF m 171 #[.val (.int i0), .val (.int i1), .val (.int i2), .val (.int i3), .val (.int i4), .val (.int i5), .val (.int i6), .val (.int i7), .val (.int i8), .val (.ref o9), .val (.int i10), .val (.int i11), .unset] [(.int i5)])) _
  refine XS.iconst X0.here hx rfl (hb hby at_171) ?_
  show Steps p.tables e below (T0.setTop (mkF m 172 #[.val (.int i0), .val (.int i1), .val (.int i2), .val (.int i3), .val (.int i4), .val (.int i5), .val (.int i6), .val (.int i7), .val (.int i8), .val (.ref o9), .val (.int i10), .val (.int i11), .unset] [(.int (2 : Int32)), (.int i5)])) _
  refine XS.iushr X0.here hx rfl (hb hby at_172) rfl ?_
  show Steps p.tables e below (T0.setTop (mkF m 173 #[.val (.int i0), .val (.int i1), .val (.int i2), .val (.int i3), .val (.int i4), .val (.int i5), .val (.int i6), .val (.int i7), .val (.int i8), .val (.ref o9), .val (.int i10), .val (.int i11), .unset] [(.int ((i5.toUInt32 >>> ((2 : Int32) &&& 31).toUInt32).toInt32))])) _
  refine XS.iconst X0.here hx rfl (hb hby at_173) ?_
  show Steps p.tables e below (T0.setTop (mkF m 174 #[.val (.int i0), .val (.int i1), .val (.int i2), .val (.int i3), .val (.int i4), .val (.int i5), .val (.int i6), .val (.int i7), .val (.int i8), .val (.ref o9), .val (.int i10), .val (.int i11), .unset] [(.int (1 : Int32)), (.int ((i5.toUInt32 >>> ((2 : Int32) &&& 31).toUInt32).toInt32))])) _
  refine XS.iand X0.here hx rfl (hb hby at_174) rfl ?_
  show Steps p.tables e below (T0.setTop (mkF m 175 #[.val (.int i0), .val (.int i1), .val (.int i2), .val (.int i3), .val (.int i4), .val (.int i5), .val (.int i6), .val (.int i7), .val (.int i8), .val (.ref o9), .val (.int i10), .val (.int i11), .unset] [(.int (((i5.toUInt32 >>> ((2 : Int32) &&& 31).toUInt32).toInt32) &&& (1 : Int32)))])) _
  refine XS.ifNo X0.here hx rfl (hb hby at_175) rfl ((if0 _ _).trans (teq hc175).2) ?_
  show Steps p.tables e below (T0.setTop (mkF m 178 #[.val (.int i0), .val (.int i1), .val (.int i2), .val (.int i3), .val (.int i4), .val (.int i5), .val (.int i6), .val (.int i7), .val (.int i8), .val (.ref o9), .val (.int i10), .val (.int i11), .unset] [])) _
  refine XS.iconst X0.here hx rfl (hb hby at_178) ?_
  show Steps p.tables e below (T0.setTop (mkF m 179 #[.val (.int i0), .val (.int i1), .val (.int i2), .val (.int i3), .val (.int i4), .val (.int i5), .val (.int i6), .val (.int i7), .val (.int i8), .val (.ref o9), .val (.int i10), .val (.int i11), .unset] [(.int (2 : Int32))])) _
  refine st7 _ ?_
  show Steps p.tables e below (T7.setTop (mkF m 181 #[.val (.int i0), .val (.int i1), .val (.int i2), .val (.int i3), .val (.int i4), .val (.int i5), .val (.int i6), .val (.int i7), .val (.int i8), .val (.ref o9), .val (.int i10), .val (.int i11), .unset] [(.ref b7)])) _
  refine XS.dup X7.here hx rfl (hb hby at_181) rfl rfl ?_
  show Steps p.tables e below (T7.setTop (mkF m 182 #[.val (.int i0), .val (.int i1), .val (.int i2), .val (.int i3), .val (.int i4), .val (.int i5), .val (.int i6), .val (.int i7), .val (.int i8), .val (.ref o9), .val (.int i10), .val (.int i11), .unset] [(.ref b7), (.ref b7)])) _
  refine XS.iconst X7.here hx rfl (hb hby at_182) ?_
  show Steps p.tables e below (T7.setTop (mkF m 183 #[.val (.int i0), .val (.int i1), .val (.int i2), .val (.int i3), .val (.int i4), .val (.int i5), .val (.int i6), .val (.int i7), .val (.int i8), .val (.ref o9), .val (.int i10), .val (.int i11), .unset] [(.int (0 : Int32)), (.ref b7), (.ref b7)])) _
  refine XS.iloadN X7.here hx rfl (hb hby at_183) rfl ?_
  show Steps p.tables e below (T7.setTop (mkF m 184 #[.val (.int i0), .val (.int i1), .val (.int i2), .val (.int i3), .val (.int i4), .val (.int i5), .val (.int i6), .val (.int i7), .val (.int i8), .val (.ref o9), .val (.int i10), .val (.int i11), .unset] [(.int i1), (.int (0 : Int32)), (.ref b7), (.ref b7)])) _
  refine st8 _ ?_
  show Steps p.tables e below (T8.setTop (mkF m 185 #[.val (.int i0), .val (.int i1), .val (.int i2), .val (.int i3), .val (.int i4), .val (.int i5), .val (.int i6), .val (.int i7), .val (.int i8), .val (.ref o9), .val (.int i10), .val (.int i11), .unset] [(.ref b7)])) _
  refine XS.dup X8.here hx rfl (hb hby at_185) rfl rfl ?_
  show Steps p.tables e below (T8.setTop (mkF m 186 #[.val (.int i0), .val (.int i1), .val (.int i2), .val (.int i3), .val (.int i4), .val (.int i5), .val (.int i6), .val (.int i7), .val (.int i8), .val (.ref o9), .val (.int i10), .val (.int i11), .unset] [(.ref b7), (.ref b7)])) _
  refine XS.iconst X8.here hx rfl (hb hby at_186) ?_
  show Steps p.tables e below (T8.setTop (mkF m 187 #[.val (.int i0), .val (.int i1), .val (.int i2), .val (.int i3), .val (.int i4), .val (.int i5), .val (.int i6), .val (.int i7), .val (.int i8), .val (.ref o9), .val (.int i10), .val (.int i11), .unset] [(.int (1 : Int32)), (.ref b7), (.ref b7)])) _
  refine XS.iloadN X8.here hx rfl (hb hby at_187) rfl ?_
  show Steps p.tables e below (T8.setTop (mkF m 188 #[.val (.int i0), .val (.int i1), .val (.int i2), .val (.int i3), .val (.int i4), .val (.int i5), .val (.int i6), .val (.int i7), .val (.int i8), .val (.ref o9), .val (.int i10), .val (.int i11), .unset] [(.int i3), (.int (1 : Int32)), (.ref b7), (.ref b7)])) _
  refine st9 _ ?_
  show Steps p.tables e below (T9.setTop (mkF m 189 #[.val (.int i0), .val (.int i1), .val (.int i2), .val (.int i3), .val (.int i4), .val (.int i5), .val (.int i6), .val (.int i7), .val (.int i8), .val (.ref o9), .val (.int i10), .val (.int i11), .unset] [(.ref b7)])) _
  refine XS.goto X9.here hx rfl (pc0 := 189) (pc' := 208) rfl (hb hby at_189) (by decide) (by decide) ?_
  show Steps p.tables e below (T9.setTop (mkF m 208 #[.val (.int i0), .val (.int i1), .val (.int i2), .val (.int i3), .val (.int i4), .val (.int i5), .val (.int i6), .val (.int i7), .val (.int i8), .val (.ref o9), .val (.int i10), .val (.int i11), .unset] [(.ref b7)])) _
  refine XS.astore X9.here hx rfl (hb hby at_208) rfl rfl (l' := #[.val (.int i0), .val (.int i1), .val (.int i2), .val (.int i3), .val (.int i4), .val (.int i5), .val (.int i6), .val (.int i7), .val (.int i8), .val (.ref o9), .val (.int i10), .val (.int i11), .val (.ref b7)]) rfl ?_
  exact kt
set_option maxRecDepth 65536 in
set_option maxHeartbeats 40000000 in
theorem sgD3 {p : Program} {l : Launch} {e : Env} {s : State} {m : MethodId} {args : Array Value} {below : List Frame} {meth : Method} {c : Code} {T0 : State} {locs : List Loc} {Z : State} {a0 : Array Value} {h0 : Heap} {n0 : Nat} (i0 : Int32) (i1 : Int32) (i2 : Int32) (i3 : Int32) (i4 : Int32) (i5 : Int32) (i6 : Int32) (i7 : Int32) (i8 : Int32) (o9 : Addr) (i10 : Int32) (i11 : Int32)
    (X0 : Stand p l e room_1 s m args below meth c T0 locs 1 5) (hx : p.tables.exec = Jvm.exec) (hZ : Z.Warmed39 s.vm) (hw : ∀ d ∈ tables_1, d.before a0 Z = true) (hby : c.code = code) (hml : c.maxLocals = 13) (hown : s.vm.findClass "com/example/restless_reasoner/restlessreasoner/engine/tableau/PremisesIsEqualityPinLaw" = some m.cls) (e0 : T0.heap = h0) (Z0 : n0 ≤ h0.size) (N0 : Fr n0 locs) (hc175 : ¬ ((((i5.toUInt32 >>> ((2 : Int32) &&& 31).toUInt32).toInt32) &&& (1 : Int32)) = (0 : Int32))) :
    ∃ (T' : State) (h' : Heap) (locs' : List Loc) (b7 : Addr) (k7 : ClassId), Stand p l e room_1 s m args below meth c T' locs' 2 8 ∧ T'.heap = h' ∧ Fr n0 locs' ∧ Keep h0 h' [] ∧ n0 ≤ b7 ∧ h0.size ≤ b7 ∧ Arv Z h' b7 k7 .int (3 : Int32) [(.int i1), (.int i3), (.int i4)] (.int (0 : Int32)) ∧
      ∀ target, Steps p.tables e below (T'.setTop (mkF m 210 #[.val (.int i0), .val (.int i1), .val (.int i2), .val (.int i3), .val (.int i4), .val (.int i5), .val (.int i6), .val (.int i7), .val (.int i8), .val (.ref o9), .val (.int i10), .val (.int i11), .val (.ref b7)] [])) target → Steps p.tables e below (T0.setTop (mkF m 169 #[.val (.int i0), .val (.int i1), .val (.int i2), .val (.int i3), .val (.int i4), .val (.int i5), .val (.int i6), .val (.int i7), .val (.int i8), .val (.ref o9), .val (.int i10), .val (.int i11), .unset] [])) target := by
  obtain ⟨T7, h7, k7, X7, e7, E7, A7, st7⟩ := newP X0 hx hZ (hw _ (List.mem_of_getElem? (i := 1) rfl)) e0 (g := (mkF m 193 #[.val (.int i0), .val (.int i1), .val (.int i2), .val (.int i3), .val (.int i4), .val (.int i5), .val (.int i6), .val (.int i7), .val (.int i8), .val (.ref o9), .val (.int i10), .val (.int i11), .unset] [(.int (3 : Int32))])) rfl (hb hby at_193) rfl (by decide) (cap := 3) (by decide) (by decide) (by decide) (by decide)
  obtain ⟨b7, g7⟩ : ∃ z, z = h0.size := ⟨_, rfl⟩
  rw [← g7] at A7 st7
  have V_b7 : Arv Z h7 b7 k7 .int (3 : Int32) [(.int (0 : Int32)), (.int (0 : Int32)), (.int (0 : Int32))] (.int (0 : Int32)) := (Arv.new A7 (by decide)).pad (pad_rep [] (.int (0 : Int32)) 3)
  have g_b7 : n0 ≤ b7 := Nat.le_trans Z0 (Nat.le_of_eq g7.symm)
  have sz_b7 : h0.size ≤ b7 := (Nat.le_trans (Keep.refl h0 []).1 (Nat.le_of_eq g7.symm))
  have K7 : Keep h0 h7 [] := (Keep.refl h0 []).ext E7
  obtain ⟨cl_b7_198, Ar_b7, q_b7, S_b7, N_b7, H_b7, G_b7⟩ := V_b7
  have hin198 : ¬ ((0 : Int32) < 0 ∨ cl_b7_198.slots.size ≤ ((0 : Int32)).toNatClampNeg) := inb_of S_b7 ⟨by decide, by decide⟩
  obtain ⟨T8, h8, X8, e8, W8, st8⟩ := stI X7 hx hZ e7 Ar_b7 (j := (0 : Int32)) hin198 (g := (mkF m 198 #[.val (.int i0), .val (.int i1), .val (.int i2), .val (.int i3), .val (.int i4), .val (.int i5), .val (.int i6), .val (.int i7), .val (.int i8), .val (.ref o9), .val (.int i10), .val (.int i11), .unset] [(.int i1), (.int (0 : Int32)), (.ref b7), (.ref b7)])) rfl rfl (hb hby at_198)
  have V_b7_8 := Arv.set Ar_b7 q_b7 S_b7 N_b7 H_b7 G_b7 rfl W8 0 rfl (Nat.le_of_ble_eq_true rfl)
  have K8 : Keep h0 h8 [] := K7.wr W8 (Or.inr sz_b7)
  have N8 := Fr.snoc X8 N0 g_b7
  obtain ⟨cl_b7_202, Ar_b7, q_b7, S_b7, N_b7, H_b7, G_b7⟩ := V_b7_8
  have hin202 : ¬ ((1 : Int32) < 0 ∨ cl_b7_202.slots.size ≤ ((1 : Int32)).toNatClampNeg) := inb_of S_b7 ⟨by decide, by decide⟩
  obtain ⟨T9, h9, X9, e9, W9, st9⟩ := stI X8 hx hZ e8 Ar_b7 (j := (1 : Int32)) hin202 (g := (mkF m 202 #[.val (.int i0), .val (.int i1), .val (.int i2), .val (.int i3), .val (.int i4), .val (.int i5), .val (.int i6), .val (.int i7), .val (.int i8), .val (.ref o9), .val (.int i10), .val (.int i11), .unset] [(.int i3), (.int (1 : Int32)), (.ref b7), (.ref b7)])) rfl rfl (hb hby at_202)
  have V_b7_9 := Arv.set Ar_b7 q_b7 S_b7 N_b7 H_b7 G_b7 rfl W9 1 rfl (Nat.le_of_ble_eq_true rfl)
  have K9 : Keep h0 h9 [] := K8.wr W9 (Or.inr sz_b7)
  have N9 := Fr.snoc X9 N8 g_b7
  obtain ⟨cl_b7_207, Ar_b7, q_b7, S_b7, N_b7, H_b7, G_b7⟩ := V_b7_9
  have hin207 : ¬ ((2 : Int32) < 0 ∨ cl_b7_207.slots.size ≤ ((2 : Int32)).toNatClampNeg) := inb_of S_b7 ⟨by decide, by decide⟩
  obtain ⟨T10, h10, X10, e10, W10, st10⟩ := stI X9 hx hZ e9 Ar_b7 (j := (2 : Int32)) hin207 (g := (mkF m 207 #[.val (.int i0), .val (.int i1), .val (.int i2), .val (.int i3), .val (.int i4), .val (.int i5), .val (.int i6), .val (.int i7), .val (.int i8), .val (.ref o9), .val (.int i10), .val (.int i11), .unset] [(.int i4), (.int (2 : Int32)), (.ref b7), (.ref b7)])) rfl rfl (hb hby at_207)
  have V_b7_10 := Arv.set Ar_b7 q_b7 S_b7 N_b7 H_b7 G_b7 rfl W10 2 rfl (Nat.le_of_ble_eq_true rfl)
  have K10 : Keep h0 h10 [] := K9.wr W10 (Or.inr sz_b7)
  have N10 := Fr.snoc X10 N9 g_b7
  refine ⟨T10, _, _, b7, k7, X10, e10, N10, K10, g_b7, sz_b7, V_b7_10, fun target kt => ?_⟩
  show Steps p.tables e below (T0.setTop (mkF m 169 #[.val (.int i0), .val (.int i1), .val (.int i2), .val (.int i3), .val (.int i4), .val (.int i5), .val (.int i6), .val (.int i7), .val (.int i8), .val (.ref o9), .val (.int i10), .val (.int i11), .unset] [])) _
  refine XS.iload X0.here hx rfl (hb hby at_169) rfl ?_
  show Steps p.tables e below (T0.setTop (mkF m 171 #[.val (.int i0), .val (.int i1), .val (.int i2), .val (.int i3), .val (.int i4), .val (.int i5), .val (.int i6), .val (.int i7), .val (.int i8), .val (.ref o9), .val (.int i10), .val (.int i11), .unset] [(.int i5)])) _
  refine XS.iconst X0.here hx rfl (hb hby at_171) ?_
  show Steps p.tables e below (T0.setTop (mkF m 172 #[.val (.int i0), .val (.int i1), .val (.int i2), .val (.int i3), .val (.int i4), .val (.int i5), .val (.int i6), .val (.int i7), .val (.int i8), .val (.ref o9), .val (.int i10), .val (.int i11), .unset] [(.int (2 : Int32)), (.int i5)])) _
  refine XS.iushr X0.here hx rfl (hb hby at_172) rfl ?_
  show Steps p.tables e below (T0.setTop (mkF m 173 #[.val (.int i0), .val (.int i1), .val (.int i2), .val (.int i3), .val (.int i4), .val (.int i5), .val (.int i6), .val (.int i7), .val (.int i8), .val (.ref o9), .val (.int i10), .val (.int i11), .unset] [(.int ((i5.toUInt32 >>> ((2 : Int32) &&& 31).toUInt32).toInt32))])) _
  refine XS.iconst X0.here hx rfl (hb hby at_173) ?_
  show Steps p.tables e below (T0.setTop (mkF m 174 #[.val (.int i0), .val (.int i1), .val (.int i2), .val (.int i3), .val (.int i4), .val (.int i5), .val (.int i6), .val (.int i7), .val (.int i8), .val (.ref o9), .val (.int i10), .val (.int i11), .unset] [(.int (1 : Int32)), (.int ((i5.toUInt32 >>> ((2 : Int32) &&& 31).toUInt32).toInt32))])) _
  refine XS.iand X0.here hx rfl (hb hby at_174) rfl ?_
  show Steps p.tables e below (T0.setTop (mkF m 175 #[.val (.int i0), .val (.int i1), .val (.int i2), .val (.int i3), .val (.int i4), .val (.int i5), .val (.int i6), .val (.int i7), .val (.int i8), .val (.ref o9), .val (.int i10), .val (.int i11), .unset] [(.int (((i5.toUInt32 >>> ((2 : Int32) &&& 31).toUInt32).toInt32) &&& (1 : Int32)))])) _
  refine XS.ifYes X0.here hx rfl (pc0 := 175) (pc' := 192) rfl (hb hby at_175) rfl ((if0 _ _).trans (feq hc175).2) (by decide) (by decide) ?_
  show Steps p.tables e below (T0.setTop (mkF m 192 #[.val (.int i0), .val (.int i1), .val (.int i2), .val (.int i3), .val (.int i4), .val (.int i5), .val (.int i6), .val (.int i7), .val (.int i8), .val (.ref o9), .val (.int i10), .val (.int i11), .unset] [])) _
  refine XS.iconst X0.here hx rfl (hb hby at_192) ?_
  show Steps p.tables e below (T0.setTop (mkF m 193 #[.val (.int i0), .val (.int i1), .val (.int i2), .val (.int i3), .val (.int i4), .val (.int i5), .val (.int i6), .val (.int i7), .val (.int i8), .val (.ref o9), .val (.int i10), .val (.int i11), .unset] [(.int (3 : Int32))])) _
  refine st7 _ ?_
  show Steps p.tables e below (T7.setTop (mkF m 195 #[.val (.int i0), .val (.int i1), .val (.int i2), .val (.int i3), .val (.int i4), .val (.int i5), .val (.int i6), .val (.int i7), .val (.int i8), .val (.ref o9), .val (.int i10), .val (.int i11), .unset] [(.ref b7)])) _
  refine XS.dup X7.here hx rfl (hb hby at_195) rfl rfl ?_
  show Steps p.tables e below (T7.setTop (mkF m 196 #[.val (.int i0), .val (.int i1), .val (.int i2), .val (.int i3), .val (.int i4), .val (.int i5), .val (.int i6), .val (.int i7), .val (.int i8), .val (.ref o9), .val (.int i10), .val (.int i11), .unset] [(.ref b7), (.ref b7)])) _
  refine XS.iconst X7.here hx rfl (hb hby at_196) ?_
  show Steps p.tables e below (T7.setTop (mkF m 197 #[.val (.int i0), .val (.int i1), .val (.int i2), .val (.int i3), .val (.int i4), .val (.int i5), .val (.int i6), .val (.int i7), .val (.int i8), .val (.ref o9), .val (.int i10), .val (.int i11), .unset] [(.int (0 : Int32)), (.ref b7), (.ref b7)])) _
  refine XS.iloadN X7.here hx rfl (hb hby at_197) rfl ?_
  show Steps p.tables e below (T7.setTop (mkF m 198 #[.val (.int i0), .val (.int i1), .val (.int i2), .val (.int i3), .val (.int i4), .val (.int i5), .val (.int i6), .val (.int i7), .val (.int i8), .val (.ref o9), .val (.int i10), .val (.int i11), .unset] [(.int i1), (.int (0 : Int32)), (.ref b7), (.ref b7)])) _
  refine st8 _ ?_
  show Steps p.tables e below (T8.setTop (mkF m 199 #[.val (.int i0), .val (.int i1), .val (.int i2), .val (.int i3), .val (.int i4), .val (.int i5), .val (.int i6), .val (.int i7), .val (.int i8), .val (.ref o9), .val (.int i10), .val (.int i11), .unset] [(.ref b7)])) _
  refine XS.dup X8.here hx rfl (hb hby at_199) rfl rfl ?_
  show Steps p.tables e below (T8.setTop (mkF m 200 #[.val (.int i0), .val (.int i1), .val (.int i2), .val (.int i3), .val (.int i4), .val (.int i5), .val (.int i6), .val (.int i7), .val (.int i8), .val (.ref o9), .val (.int i10), .val (.int i11), .unset] [(.ref b7), (.ref b7)])) _
  refine XS.iconst X8.here hx rfl (hb hby at_200) ?_
  show Steps p.tables e below (T8.setTop (mkF m 201 #[.val (.int i0), .val (.int i1), .val (.int i2), .val (.int i3), .val (.int i4), .val (.int i5), .val (.int i6), .val (.int i7), .val (.int i8), .val (.ref o9), .val (.int i10), .val (.int i11), .unset] [(.int (1 : Int32)), (.ref b7), (.ref b7)])) _
  refine XS.iloadN X8.here hx rfl (hb hby at_201) rfl ?_
  show Steps p.tables e below (T8.setTop (mkF m 202 #[.val (.int i0), .val (.int i1), .val (.int i2), .val (.int i3), .val (.int i4), .val (.int i5), .val (.int i6), .val (.int i7), .val (.int i8), .val (.ref o9), .val (.int i10), .val (.int i11), .unset] [(.int i3), (.int (1 : Int32)), (.ref b7), (.ref b7)])) _
  refine st9 _ ?_
  show Steps p.tables e below (T9.setTop (mkF m 203 #[.val (.int i0), .val (.int i1), .val (.int i2), .val (.int i3), .val (.int i4), .val (.int i5), .val (.int i6), .val (.int i7), .val (.int i8), .val (.ref o9), .val (.int i10), .val (.int i11), .unset] [(.ref b7)])) _
  refine XS.dup X9.here hx rfl (hb hby at_203) rfl rfl ?_
  show Steps p.tables e below (T9.setTop (mkF m 204 #[.val (.int i0), .val (.int i1), .val (.int i2), .val (.int i3), .val (.int i4), .val (.int i5), .val (.int i6), .val (.int i7), .val (.int i8), .val (.ref o9), .val (.int i10), .val (.int i11), .unset] [(.ref b7), (.ref b7)])) _
  refine XS.iconst X9.here hx rfl (hb hby at_204) ?_
  show Steps p.tables e below (T9.setTop (mkF m 205 #[.val (.int i0), .val (.int i1), .val (.int i2), .val (.int i3), .val (.int i4), .val (.int i5), .val (.int i6), .val (.int i7), .val (.int i8), .val (.ref o9), .val (.int i10), .val (.int i11), .unset] [(.int (2 : Int32)), (.ref b7), (.ref b7)])) _
  refine XS.iload X9.here hx rfl (hb hby at_205) rfl ?_
  show Steps p.tables e below (T9.setTop (mkF m 207 #[.val (.int i0), .val (.int i1), .val (.int i2), .val (.int i3), .val (.int i4), .val (.int i5), .val (.int i6), .val (.int i7), .val (.int i8), .val (.ref o9), .val (.int i10), .val (.int i11), .unset] [(.int i4), (.int (2 : Int32)), (.ref b7), (.ref b7)])) _
  refine st10 _ ?_
  show Steps p.tables e below (T10.setTop (mkF m 208 #[.val (.int i0), .val (.int i1), .val (.int i2), .val (.int i3), .val (.int i4), .val (.int i5), .val (.int i6), .val (.int i7), .val (.int i8), .val (.ref o9), .val (.int i10), .val (.int i11), .unset] [(.ref b7)])) _
  refine XS.astore X10.here hx rfl (hb hby at_208) rfl rfl (l' := #[.val (.int i0), .val (.int i1), .val (.int i2), .val (.int i3), .val (.int i4), .val (.int i5), .val (.int i6), .val (.int i7), .val (.int i8), .val (.ref o9), .val (.int i10), .val (.int i11), .val (.ref b7)]) rfl ?_
  exact kt
set_option maxRecDepth 65536 in
set_option maxHeartbeats 40000000 in
theorem sgD {p : Program} {l : Launch} {e : Env} {s : State} {m : MethodId} {args : Array Value} {below : List Frame} {meth : Method} {c : Code} {T0 : State} {locs : List Loc} {Z : State} {a0 : Array Value} {h0 : Heap} {n0 : Nat} (i0 : Int32) (i1 : Int32) (i2 : Int32) (i3 : Int32) (i4 : Int32) (i5 : Int32) (i6 : Int32) (i7 : Int32) (i8 : Int32) (o9 : Addr) (i10 : Int32) (i11 : Int32)
    (X0 : Stand p l e room_1 s m args below meth c T0 locs 1 5) (hx : p.tables.exec = Jvm.exec) (hZ : Z.Warmed39 s.vm) (hw : ∀ d ∈ tables_1, d.before a0 Z = true) (hby : c.code = code) (hml : c.maxLocals = 13) (hown : s.vm.findClass "com/example/restless_reasoner/restlessreasoner/engine/tableau/PremisesIsEqualityPinLaw" = some m.cls) (e0 : T0.heap = h0) (Z0 : n0 ≤ h0.size) (N0 : Fr n0 locs) :
    ∃ (T' : State) (h' : Heap) (locs' : List Loc) (b : Addr) (k : ClassId) (z x2 : Int32), Stand p l e room_1 s m args below meth c T' locs' 2 8 ∧ T'.heap = h' ∧ Fr n0 locs' ∧ Keep h0 h' [] ∧ (z = (2 : Int32) ∨ z = (3 : Int32)) ∧ Arv Z h' b k .int z [(.int i1), (.int i3), (.int x2)] (.int (0 : Int32)) ∧
      ∀ target, Steps p.tables e below (T'.setTop (mkF m 210 #[.val (.int i0), .val (.int i1), .val (.int i2), .val (.int i3), .val (.int i4), .val (.int i5), .val (.int i6), .val (.int i7), .val (.int i8), .val (.ref o9), .val (.int i10), .val (.int i11), .val (.ref b)] [])) target → Steps p.tables e below (T0.setTop (mkF m 169 #[.val (.int i0), .val (.int i1), .val (.int i2), .val (.int i3), .val (.int i4), .val (.int i5), .val (.int i6), .val (.int i7), .val (.int i8), .val (.ref o9), .val (.int i10), .val (.int i11), .unset] [])) target := by
  by_cases hq : (((i5.toUInt32 >>> ((2 : Int32) &&& 31).toUInt32).toInt32) &&& (1 : Int32)) = (0 : Int32)
  · obtain ⟨T', h', locs', b, k, X', e', N', K', g', s', V', st⟩ := sgD2 i0 i1 i2 i3 i4 i5 i6 i7 i8 o9 i10 i11 X0 hx hZ hw hby hml hown e0 Z0 N0 hq
    exact ⟨T', h', locs', b, k, (2 : Int32), (0 : Int32), X', e', N', K', Or.inl rfl, V'.pad (pad_rep [(.int i1), (.int i3)] (.int (0 : Int32)) 1), st⟩
  · obtain ⟨T', h', locs', b, k, X', e', N', K', g', s', V', st⟩ := sgD3 i0 i1 i2 i3 i4 i5 i6 i7 i8 o9 i10 i11 X0 hx hZ hw hby hml hown e0 Z0 N0 hq
    exact ⟨T', h', locs', b, k, (3 : Int32), _, X', e', N', K', Or.inr rfl, V', st⟩
theorem pd_0_1 : parseMethodDescriptor "(I[I)[I" = some ⟨[.int, (.array .int)], some (.array .int)⟩ := by decide +kernel
set_option maxRecDepth 65536 in
set_option maxHeartbeats 40000000 in
theorem sgE {p : Program} {l : Launch} {e : Env} {s : State} {m : MethodId} {args : Array Value} {below : List Frame} {meth : Method} {c : Code} {T0 : State} {locs : List Loc} {Z : State} {a0 : Array Value} {h0 : Heap} {n0 : Nat} (i0 : Int32) (i1 : Int32) (i2 : Int32) (i3 : Int32) (i4 : Int32) (i5 : Int32) (i6 : Int32) (i7 : Int32) (i8 : Int32) (o9 : Addr) (i10 : Int32) (i11 : Int32) (o12 : Addr) (k_o12 : ClassId) (z_o12 : Int32) (x0_o12 : Int32) (x1_o12 : Int32) (x2_o12 : Int32)
    (X0 : Stand p l e room_1 s m args below meth c T0 locs 2 8) (hx : p.tables.exec = Jvm.exec) (hZ : Z.Warmed39 s.vm) (hw : ∀ d ∈ tables_1, d.before a0 Z = true) (hby : c.code = code) (hml : c.maxLocals = 13) (hown : s.vm.findClass "com/example/restless_reasoner/restlessreasoner/engine/tableau/PremisesIsEqualityPinLaw" = some m.cls) (e0 : T0.heap = h0) (Z0 : n0 ≤ h0.size) (N0 : Fr n0 locs) (V_o12 : Arv Z h0 o12 k_o12 .int z_o12 [(.int x0_o12), (.int x1_o12), (.int x2_o12)] (.int (0 : Int32))) (hz_o12 : z_o12 = (2 : Int32) ∨ z_o12 = (3 : Int32)) (hc220 : ¬ ((own_iseq (z_o12 + 1) (-2 : Int32)) = (0 : Int32))) (hc235 : (own_iseq (z_o12 + 1) (-3 : Int32)) = (0 : Int32)) :
    ∃ (T' : State) (h' : Heap) (locs' : List Loc) (Ls : Array Slot), Stand p l e room_1 s m args below meth c T' locs' 4 16 ∧ T'.heap = h' ∧ Fr n0 locs' ∧ Keep h0 h' [] ∧
      ∀ target, Steps p.tables e below (T'.setTop (mkF m 241 Ls [(.int (1 : Int32))])) target → Steps p.tables e below (T0.setTop (mkF m 210 #[.val (.int i0), .val (.int i1), .val (.int i2), .val (.int i3), .val (.int i4), .val (.int i5), .val (.int i6), .val (.int i7), .val (.int i8), .val (.ref o9), .val (.int i10), .val (.int i11), .val (.ref o12)] [])) target := by
  have VA7_o12 := V_o12
  obtain ⟨_, _, ⟨T7, L7, k7, n7⟩, -, X7, ⟨Lc7, hQ7, l7, y7, z7⟩, st7⟩ := Jvm.LawKit.callS X0 hx (y := (⟨"com/example/restless_reasoner/restlessreasoner/engine/tableau/Premises", "identity", "(I[I)[I"⟩ : MethodName)) hown (mvT hZ (hw _ (List.mem_of_getElem? (i := 6) rfl))) (mvT hZ (hw _ (List.mem_of_getElem? (i := 7) rfl))) (mvT hZ (hw _ (List.mem_of_getElem? (i := 4) rfl))) (mvT hZ (hw _ (List.mem_of_getElem? (i := 8) rfl))) (by decide) (backOf (W := 0) (rm2 l Z a0 hw [] (-2 : Int32) o12 k_o12 z_o12 x0_o12 x1_o12 x2_o12 h0 n0 Z0 hz_o12 VA7_o12) hZ (hw _ (List.mem_of_getElem? (i := 8) rfl)) (hw _ (List.mem_of_getElem? (i := 4) rfl)) (by decide) (by decide)) (g := (mkF m 214 #[.val (.int i0), .val (.int i1), .val (.int i2), .val (.int i3), .val (.int i4), .val (.int i5), .val (.int i6), .val (.int i7), .val (.int i8), .val (.ref o9), .val (.int i10), .val (.int i11), .val (.ref o12)] [(.ref o12), (.int (-2 : Int32))])) rfl (by rw [hml]; rfl) (argsL := [(.int (-2 : Int32)), (.ref o12)]) (rest := []) (lenOf pd_0_1 rfl) rfl (by show 2 * 0 + _ ≤ _; exact Nat.le_of_eq rfl) (hb hby at_214) (fun _ _ => ⟨rfl, e0, (Nat.le_of_ble_eq_true rfl), (Nat.le_of_ble_eq_true rfl)⟩)
  dsimp only [Pt.U, Pt.locs, Pt.cells, Pt.slots] at X7 l7 y7 z7 st7 hQ7
  subst l7 y7 z7
  obtain ⟨b7q, k7q, vs7q, rfl, N7q, Kq7, g7q, sz7q, V7q, w7q⟩ := hQ7
  have K7 : Keep h0 T7.heap [] := (Keep.refl h0 []).trans Kq7 (fun _ q => nomatch q)
  have N7 := Fr.app N0 N7q
  obtain ⟨_, _, ⟨T8, L8, k8, n8⟩, -, X8, ⟨Lc8, hQ8, l8, y8, z8⟩, st8⟩ := Jvm.LawKit.callS X7 hx (y := (⟨"com/example/restless_reasoner/restlessreasoner/engine/tableau/Premises", "isEquality", "([I)Z"⟩ : MethodName)) hown (mvT hZ (hw _ (List.mem_of_getElem? (i := 2) rfl))) (mvT hZ (hw _ (List.mem_of_getElem? (i := 3) rfl))) (mvT hZ (hw _ (List.mem_of_getElem? (i := 4) rfl))) (mvT hZ (hw _ (List.mem_of_getElem? (i := 5) rfl))) (by decide) (backOf (W := 0) (rm1 l Z a0 hw [] b7q k7q (z_o12 + 1) vs7q (-2 : Int32) T7.heap n0 (Nat.le_trans Z0 K7.1) V7q (fun _ => w7q)) hZ (hw _ (List.mem_of_getElem? (i := 5) rfl)) (hw _ (List.mem_of_getElem? (i := 4) rfl)) (by decide) (by decide)) (g := (mkF m 217 #[.val (.int i0), .val (.int i1), .val (.int i2), .val (.int i3), .val (.int i4), .val (.int i5), .val (.int i6), .val (.int i7), .val (.int i8), .val (.ref o9), .val (.int i10), .val (.int i11), .val (.ref o12)] [(.ref b7q)])) rfl (by rw [hml]; rfl) (argsL := [(.ref b7q)]) (rest := []) (lenOf pd_0_0 rfl) rfl (by show 2 * 0 + _ ≤ _; exact Nat.le_of_eq rfl) (hb hby at_217) (fun _ _ => ⟨rfl, rfl, (Nat.le_of_ble_eq_true rfl), (Nat.le_of_ble_eq_true rfl)⟩)
  dsimp only [Pt.U, Pt.locs, Pt.cells, Pt.slots] at X8 l8 y8 z8 st8 hQ8
  subst l8 y8 z8
  obtain ⟨rfl, N8q, h8q⟩ := hQ8
  have Kq8 : Keep T7.heap T8.heap [] := by rw [h8q]; exact Keep.refl _ _
  have K8 : Keep h0 T8.heap [] := K7.trans Kq8 (fun _ q => nomatch q)
  have N8 := Fr.app N7 N8q
  have VA9_o12 := ((V_o12.keep Kq7 List.not_mem_nil).keep Kq8 List.not_mem_nil)
  obtain ⟨_, _, ⟨T9, L9, k9, n9⟩, -, X9, ⟨Lc9, hQ9, l9, y9, z9⟩, st9⟩ := Jvm.LawKit.callS X8 hx (y := (⟨"com/example/restless_reasoner/restlessreasoner/engine/tableau/Premises", "identity", "(I[I)[I"⟩ : MethodName)) hown (mvT hZ (hw _ (List.mem_of_getElem? (i := 6) rfl))) (mvT hZ (hw _ (List.mem_of_getElem? (i := 7) rfl))) (mvT hZ (hw _ (List.mem_of_getElem? (i := 4) rfl))) (mvT hZ (hw _ (List.mem_of_getElem? (i := 8) rfl))) (by decide) (backOf (W := 0) (rm2 l Z a0 hw [] (-3 : Int32) o12 k_o12 z_o12 x0_o12 x1_o12 x2_o12 T8.heap n0 (Nat.le_trans Z0 K8.1) hz_o12 VA9_o12) hZ (hw _ (List.mem_of_getElem? (i := 8) rfl)) (hw _ (List.mem_of_getElem? (i := 4) rfl)) (by decide) (by decide)) (g := (mkF m 229 #[.val (.int i0), .val (.int i1), .val (.int i2), .val (.int i3), .val (.int i4), .val (.int i5), .val (.int i6), .val (.int i7), .val (.int i8), .val (.ref o9), .val (.int i10), .val (.int i11), .val (.ref o12)] [(.ref o12), (.int (-3 : Int32))])) rfl (by rw [hml]; rfl) (argsL := [(.int (-3 : Int32)), (.ref o12)]) (rest := []) (lenOf pd_0_1 rfl) rfl (by show 2 * 0 + _ ≤ _; exact Nat.le_of_eq rfl) (hb hby at_229) (fun _ _ => ⟨rfl, rfl, (Nat.le_of_ble_eq_true rfl), (Nat.le_of_ble_eq_true rfl)⟩)
  dsimp only [Pt.U, Pt.locs, Pt.cells, Pt.slots] at X9 l9 y9 z9 st9 hQ9
  subst l9 y9 z9
  obtain ⟨b9q, k9q, vs9q, rfl, N9q, Kq9, g9q, sz9q, V9q, w9q⟩ := hQ9
  have K9 : Keep h0 T9.heap [] := K8.trans Kq9 (fun _ q => nomatch q)
  have N9 := Fr.app N8 N9q
  obtain ⟨_, _, ⟨T10, L10, k10, n10⟩, -, X10, ⟨Lc10, hQ10, l10, y10, z10⟩, st10⟩ := Jvm.LawKit.callS X9 hx (y := (⟨"com/example/restless_reasoner/restlessreasoner/engine/tableau/Premises", "isEquality", "([I)Z"⟩ : MethodName)) hown (mvT hZ (hw _ (List.mem_of_getElem? (i := 2) rfl))) (mvT hZ (hw _ (List.mem_of_getElem? (i := 3) rfl))) (mvT hZ (hw _ (List.mem_of_getElem? (i := 4) rfl))) (mvT hZ (hw _ (List.mem_of_getElem? (i := 5) rfl))) (by decide) (backOf (W := 0) (rm1 l Z a0 hw [] b9q k9q (z_o12 + 1) vs9q (-3 : Int32) T9.heap n0 (Nat.le_trans Z0 K9.1) V9q (fun _ => w9q)) hZ (hw _ (List.mem_of_getElem? (i := 5) rfl)) (hw _ (List.mem_of_getElem? (i := 4) rfl)) (by decide) (by decide)) (g := (mkF m 232 #[.val (.int i0), .val (.int i1), .val (.int i2), .val (.int i3), .val (.int i4), .val (.int i5), .val (.int i6), .val (.int i7), .val (.int i8), .val (.ref o9), .val (.int i10), .val (.int i11), .val (.ref o12)] [(.ref b9q)])) rfl (by rw [hml]; rfl) (argsL := [(.ref b9q)]) (rest := []) (lenOf pd_0_0 rfl) rfl (by show 2 * 0 + _ ≤ _; exact Nat.le_of_eq rfl) (hb hby at_232) (fun _ _ => ⟨rfl, rfl, (Nat.le_of_ble_eq_true rfl), (Nat.le_of_ble_eq_true rfl)⟩)
  dsimp only [Pt.U, Pt.locs, Pt.cells, Pt.slots] at X10 l10 y10 z10 st10 hQ10
  subst l10 y10 z10
  obtain ⟨rfl, N10q, h10q⟩ := hQ10
  have Kq10 : Keep T9.heap T10.heap [] := by rw [h10q]; exact Keep.refl _ _
  have K10 : Keep h0 T10.heap [] := K9.trans Kq10 (fun _ q => nomatch q)
  have N10 := Fr.app N9 N10q
  refine ⟨T10, _, _, #[.val (.int i0), .val (.int i1), .val (.int i2), .val (.int i3), .val (.int i4), .val (.int i5), .val (.int i6), .val (.int i7), .val (.int i8), .val (.ref o9), .val (.int i10), .val (.int i11), .val (.ref o12)], X10, rfl, N10, K10, fun target kt => ?_⟩
  show Steps p.tables e below (T0.setTop (mkF m 210 #[.val (.int i0), .val (.int i1), .val (.int i2), .val (.int i3), .val (.int i4), .val (.int i5), .val (.int i6), .val (.int i7), .val (.int i8), .val (.ref o9), .val (.int i10), .val (.int i11), .val (.ref o12)] [])) _
  refine XS.bipush X0.here hx rfl (hb hby at_210) ?_
  show Steps p.tables e below (T0.setTop (mkF m 212 #[.val (.int i0), .val (.int i1), .val (.int i2), .val (.int i3), .val (.int i4), .val (.int i5), .val (.int i6), .val (.int i7), .val (.int i8), .val (.ref o9), .val (.int i10), .val (.int i11), .val (.ref o12)] [(.int (-2 : Int32))])) _
  refine XS.aload X0.here hx rfl (hb hby at_212) rfl rfl ?_
  show Steps p.tables e below (T0.setTop (mkF m 214 #[.val (.int i0), .val (.int i1), .val (.int i2), .val (.int i3), .val (.int i4), .val (.int i5), .val (.int i6), .val (.int i7), .val (.int i8), .val (.ref o9), .val (.int i10), .val (.int i11), .val (.ref o12)] [(.ref o12), (.int (-2 : Int32))])) _
  refine st7 _ ?_
  show Steps p.tables e below (T7.setTop (mkF m 217 #[.val (.int i0), .val (.int i1), .val (.int i2), .val (.int i3), .val (.int i4), .val (.int i5), .val (.int i6), .val (.int i7), .val (.int i8), .val (.ref o9), .val (.int i10), .val (.int i11), .val (.ref o12)] [(.ref b7q)])) _
  refine st8 _ ?_
  show Steps p.tables e below (T8.setTop (mkF m 220 #[.val (.int i0), .val (.int i1), .val (.int i2), .val (.int i3), .val (.int i4), .val (.int i5), .val (.int i6), .val (.int i7), .val (.int i8), .val (.ref o9), .val (.int i10), .val (.int i11), .val (.ref o12)] [(.int (own_iseq (z_o12 + 1) (-2 : Int32)))])) _
  refine XS.ifYes X8.here hx rfl (pc0 := 220) (pc' := 225) rfl (hb hby at_220) rfl ((if0 _ _).trans (feq hc220).2) (by decide) (by decide) ?_
  show Steps p.tables e below (T8.setTop (mkF m 225 #[.val (.int i0), .val (.int i1), .val (.int i2), .val (.int i3), .val (.int i4), .val (.int i5), .val (.int i6), .val (.int i7), .val (.int i8), .val (.ref o9), .val (.int i10), .val (.int i11), .val (.ref o12)] [])) _
  refine XS.bipush X8.here hx rfl (hb hby at_225) ?_
  show Steps p.tables e below (T8.setTop (mkF m 227 #[.val (.int i0), .val (.int i1), .val (.int i2), .val (.int i3), .val (.int i4), .val (.int i5), .val (.int i6), .val (.int i7), .val (.int i8), .val (.ref o9), .val (.int i10), .val (.int i11), .val (.ref o12)] [(.int (-3 : Int32))])) _
  refine XS.aload X8.here hx rfl (hb hby at_227) rfl rfl ?_
  show Steps p.tables e below (T8.setTop (mkF m 229 #[.val (.int i0), .val (.int i1), .val (.int i2), .val (.int i3), .val (.int i4), .val (.int i5), .val (.int i6), .val (.int i7), .val (.int i8), .val (.ref o9), .val (.int i10), .val (.int i11), .val (.ref o12)] [(.ref o12), (.int (-3 : Int32))])) _
  refine st9 _ ?_
  show Steps p.tables e below (T9.setTop (mkF m 232 #[.val (.int i0), .val (.int i1), .val (.int i2), .val (.int i3), .val (.int i4), .val (.int i5), .val (.int i6), .val (.int i7), .val (.int i8), .val (.ref o9), .val (.int i10), .val (.int i11), .val (.ref o12)] [(.ref b9q)])) _
  refine st10 _ ?_
  show Steps p.tables e below (T10.setTop (mkF m 235 #[.val (.int i0), .val (.int i1), .val (.int i2), .val (.int i3), .val (.int i4), .val (.int i5), .val (.int i6), .val (.int i7), .val (.int i8), .val (.ref o9), .val (.int i10), .val (.int i11), .val (.ref o12)] [(.int (own_iseq (z_o12 + 1) (-3 : Int32)))])) _
  refine XS.ifYes X10.here hx rfl (pc0 := 235) (pc' := 240) rfl (hb hby at_235) rfl ((if0 _ _).trans (teq hc235).1) (by decide) (by decide) ?_
  show Steps p.tables e below (T10.setTop (mkF m 240 #[.val (.int i0), .val (.int i1), .val (.int i2), .val (.int i3), .val (.int i4), .val (.int i5), .val (.int i6), .val (.int i7), .val (.int i8), .val (.ref o9), .val (.int i10), .val (.int i11), .val (.ref o12)] [])) _
  refine XS.iconst X10.here hx rfl (hb hby at_240) ?_
  exact kt
theorem pn_0 : plainName "com/example/restless_reasoner/restlessreasoner/engine/tableau/PremisesIsEqualityPinLaw" = true := by first | (simp [plainName, overriddenIn]; done) | decide +kernel
theorem ef_0 (m : MethodId) (x0 : Int32) (x1 : Int32) (x2 : Int32) (x3 : Int32) (x4 : Int32) (x5 : Int32) : entryFrame m #[(.int x0), (.int x1), (.int x2), (.int x3), (.int x4), (.int x5)] maxLocals = mkF m 0 #[.val (.int x0), .val (.int x1), .val (.int x2), .val (.int x3), .val (.int x4), .val (.int x5), .unset, .unset, .unset, .unset, .unset, .unset, .unset] [] := by first | (simp [entryFrame, mkF, argsToLocals, Value.category, maxLocals]; done) | rfl
def Q0 (Z : State) (p1 : Int32) (p2 : Int32) (p3 : Int32) (p4 : Int32) (p5 : Int32) (p6 : Int32) (h0 : Heap) (n0 : Nat) (v : Option Value) (h : Heap) (L : List Loc) : Prop := v = some (.int (1 : Int32)) ∧ Fr n0 L
set_option maxRecDepth 65536 in
set_option maxHeartbeats 40000000 in
theorem rm0 (l : Launch) (Z : State) (a0 : Array Value) (hw : ∀ d ∈ tables_1, d.before a0 Z = true) (ws : List Jvm.Cond) (p1 : Int32) (p2 : Int32) (p3 : Int32) (p4 : Int32) (p5 : Int32) (p6 : Int32) (h0 : Heap) (n0 : Nat) (Z0 : n0 ≤ h0.size) :
    MetFree l x (head1 (Jvm.Cond.code x code maxLocals ret :: ws) room_1) (fun a U => a = #[(.int p1), (.int p2), (.int p3), (.int p4), (.int p5), (.int p6)] ∧ Z.Warmed39 U.vm ∧ U.heap = h0) (fun _ _ _ _ _ => True) (fun _ U o U' => ∃ v L, o = .returned v ∧ Q0 Z p1 p2 p3 p4 p5 p6 h0 n0 v U'.heap L ∧ FrameEnd U o U' L room_1.cells room_1.slots) := by
  refine MetFree.of_bodySF (plainFor_of_name pn_0) hisR ?_
  intro p e s m args below meth c s₁ Bd hml0 hP hK
  obtain ⟨rfl, hZ, hh⟩ := hP
  have hx := Bd.exec
  have hby := Bd.bytes
  have hml : c.maxLocals = 13 := hml0
  have hown : s.vm.findClass "com/example/restless_reasoner/restlessreasoner/engine/tableau/PremisesIsEqualityPinLaw" = some m.cls := findClass_of_methodNamed Bd.named
  have hnm := (name_of_methodNamed Bd.named Bd.method).1
  have X0 : Stand p l e room_1 s m #[(.int p1), (.int p2), (.int p3), (.int p4), (.int p5), (.int p6)] below meth c s₁ [] 0 0 := Stand.of_body Bd
  have e0 : s₁.heap = h0 := by rw [← hh, Bd.state]; rfl
  have N0 := Fr.nil n0
  have pre0 : ∀ t, Steps p.tables e below (s₁.setTop (mkF m 0 #[.val (.int p1), .val (.int p2), .val (.int p3), .val (.int p4), .val (.int p5), .val (.int p6), .unset, .unset, .unset, .unset, .unset, .unset, .unset] [])) t → Steps p.tables e below (s₁.setTop (entryFrame m #[(.int p1), (.int p2), (.int p3), (.int p4), (.int p5), (.int p6)] maxLocals)) t := fun t k => castTop (ef_0 m p1 p2 p3 p4 p5 p6) k
  obtain ⟨TA, hA, LA, XA, eA, NA, KA, stA⟩ := sgA p1 p2 p3 p4 p5 p6 X0 hx hZ hw hby hml hown e0 Z0 N0
  obtain ⟨TB, hB, LB, b, k, vs, XB, eB, NB, KB, gB, sB, VB, hvB, stB⟩ := sgB p1 p2 p3 p4 p5 p6 ((p1 &&& (2147483647 : Int32)) % (6 : Int32)) (p6 &&& (3 : Int32)) (own_sec p6 p3) (own_six p1) XA hx hZ hw hby hml hown eA (Nat.le_trans Z0 KA.1) NA
  have ZB := Nat.le_trans (Nat.le_trans Z0 KA.1) KB.1
  obtain ⟨TC, hC, LC, x, y, XC, eC, NC, KC, stC⟩ := sgC p1 p2 p3 p4 p5 p6 ((p1 &&& (2147483647 : Int32)) % (6 : Int32)) (p6 &&& (3 : Int32)) (own_sec p6 p3) b k vs XB hx hZ hw hby hml hown eB ZB NB VB hvB
  obtain ⟨TD, hD, LD, b2, k2, z2, x2, XD, eD, ND, KD, hz, VD, stD⟩ := sgD p1 p2 p3 p4 p5 p6 ((p1 &&& (2147483647 : Int32)) % (6 : Int32)) (p6 &&& (3 : Int32)) (own_sec p6 p3) b x y XC hx hZ hw hby hml hown eC (Nat.le_trans ZB KC.1) NC
  obtain ⟨TE, hE, LE, Ls, XE, eE, NE, KE, stE⟩ := sgE p1 p2 p3 p4 p5 p6 ((p1 &&& (2147483647 : Int32)) % (6 : Int32)) (p6 &&& (3 : Int32)) (own_sec p6 p3) b x y b2 k2 z2 p2 p4 x2 XD hx hZ hw hby hml hown eD (Nat.le_trans (Nat.le_trans ZB KC.1) KD.1) ND VD hz (by rcases hz with rfl | rfl <;> decide) (by rcases hz with rfl | rfl <;> decide)
  obtain ⟨fs, hr, hrun, hended, hW, hsame⟩ := XE.leave (v := some (.int (1 : Int32))) (fun h => by rw [Bd.returns] at h; cases h)
  refine ⟨_, _, pre0 _ (stA _ (stB _ (stC _ (stD _ (stE _ ?_))))), hrun, hended, _, _, rfl, ⟨rfl, NE⟩, ⟨_, rfl⟩, hW, hsame.mono (by decide) (by decide)⟩
  exact retN XE hx (t := .boolean) Bd.returns (by simp) (hb hby at_241) hr
set_option maxRecDepth 65536 in
set_option maxHeartbeats 40000000 in
theorem comes_1 {Post : Tables → Env → Array Value → State → Outcome → State → Prop} (hpost : ∀ tb e args s v u, (limb_1_1.after args s (.returned v) u = true ∧ limb_1_2.after args s (.returned v) u = true ∧ True) → FrameEnd s (.returned v) u (Jvm.fieldLocs frame_1_writes args s ++ Jvm.arrayLocs frame_1_arrays args s ++ Jvm.staticLocs frame_1_statics s) 16 128 → Post tb e args s (.returned v) u) :
    ArmFor flags0 classFile x code maxLocals ret World_1 tables_1 room_1 Calls_1 rest_1 Pre_1 Post := by
  intro l hfl _ _ p e ha hc hk s m args below hf hA hF happ hP
  obtain ⟨hcalls, hrest, hpre⟩ := hP
  obtain ⟨-, -, -, hnamed, -, -, -, hat⟩ := (Spec.applies_iff hf).mp happ
  obtain ⟨hg, hn⟩ := and_e (Cond.before_iff.mp (show (Jvm.Cond.and given_1 narrow_1).before args s = true from hpre))
  obtain ⟨g16, g17⟩ := and_e hg
  obtain ⟨g18, g19⟩ := and_e g17
  obtain ⟨g20, g21⟩ := and_e g19
  obtain ⟨g22, g23⟩ := and_e g21
  obtain ⟨g24, g25⟩ := and_e g23
  obtain ⟨g26, g27⟩ := and_e g25
  obtain ⟨w0, w1, w2, w3, w4, w5, rfl⟩ : ∃ w0 w1 w2 w3 w4 w5 : Value, args = #[w0, w1, w2, w3, w4, w5] := by
    have hs : args.size = 6 := by simpa [Cond.value, given_1] using g16
    obtain ⟨L⟩ := args
    match L, hs with
    | [w0, w1, w2, w3, w4, w5], _ => exact ⟨w0, w1, w2, w3, w4, w5, rfl⟩
  have hw := fun d (hd : d ∈ tables_1) => atoms_spec (ws := Jvm.Cond.code x code maxLocals ret :: tables_1) hat d (List.mem_cons_of_mem _ hd)
  have hfit : Fit s := fun {y c} hc i hi => by
    obtain ⟨ha, rfl⟩ := Array.getElem?_eq_some_iff.mp hc
    have q := List.all_eq_true.mp ((Array.all_eq_true_iff_forall_mem.mp hF) _ (Array.getElem_mem ha)) i (List.mem_range.mpr hi)
    simpa [Array.getElem?_eq_getElem hi] using q
  obtain ⟨i0, ei0⟩ := is_v g18
  obtain rfl : w0 = (.int i0) := Option.some.inj ei0
  obtain ⟨i1, ei1⟩ := is_v g20
  obtain rfl : w1 = (.int i1) := Option.some.inj ei1
  obtain ⟨i2, ei2⟩ := is_v g22
  obtain rfl : w2 = (.int i2) := Option.some.inj ei2
  obtain ⟨i3, ei3⟩ := is_v g24
  obtain rfl : w3 = (.int i3) := Option.some.inj ei3
  obtain ⟨i4, ei4⟩ := is_v g26
  obtain rfl : w4 = (.int i4) := Option.some.inj ei4
  obtain ⟨i5, ei5⟩ := is_v g27
  obtain rfl : w5 = (.int i5) := Option.some.inj ei5
  obtain ⟨n, o, h1, h2, h3, _, L, rfl, ⟨rfl, N⟩, hq⟩ := rm0 l s _ hw tables_1 i0 i1 i2 i3 i4 i5 s.heap s.heap.size (Nat.le_refl _) p e ha hc hk s m _ below hf ((Spec.applies_iff_loose hf).mp happ).1 ⟨rfl, State.Warmed39.refl s, rfl⟩ trivial
  refine ⟨n, _, h1, h2, h3, hpost _ _ _ _ _ _ ⟨Cond.after_iff.mpr rfl, Cond.after_iff.mpr (eq_i res_at (Term.int_eval (1)) rfl), trivial⟩ ⟨hq.1, hq.2.1, (hq.2.2.sift fun y hy => Or.inr (N y hy)).mono (by decide) (by decide)⟩⟩
theorem main_1_1 : Claimed_1_1 := comes_1 fun _ _ _ _ _ _ h hF => ⟨h.1, hF⟩
theorem main_1_2 : Claimed_1_2 := comes_1 fun _ _ _ _ _ _ h hF => ⟨h.2.1, hF⟩
end Jvm.Pilot.@@N@@
namespace Jvm.Pilot.@@N@@
open Jvm Jvm.ClassFile Sem Op Lib Jvm.Free Jvm.Stand Jvm.Pilot.@@N@@.Jvm.D
/-! MADE BY PROGRAM (witnessworld.py) out of the Statement's table words and the real class files: 10 classes; the members and pool entries that the words name. The judged class is class 1, her method 1. -/
namespace start1
open Jvm.ClassFile
def u (s : String) : CpInfo := .utf8 (stringToUtf16 s)
/-- a pool by its gaps: so many unusable entries, then the entry; so many at the end -/
def gap : Nat → List CpInfo → List CpInfo
  | 0, r => r
  | n + 1, r => .unusable :: gap n r
def poolList (es : List (Nat × CpInfo)) (last : Nat) : List CpInfo := es.foldr (fun e r => gap e.1 (e.2 :: r)) (gap last [])
def pool (es : List (Nat × CpInfo)) (last : Nat) : Array CpInfo := ⟨poolList es last⟩
def fileOf (pool : Array CpInfo) (this : Nat) (attrs : Array Attribute := #[]) (ms : Array MethodInfo := #[]) (fl : Nat := 33) (sup : Nat := 0) (ifs : Array Nat := #[]) (fds : Array FieldInfo := #[]) : ClassFile where
  minorVersion := 0
  majorVersion := 65
  constantPool := pool
  accessFlags := fl
  thisClass := this
  superClass := sup
  interfaces := ifs
  fields := fds
  methods := ms
  attributes := attrs
def plain (name : String) (sup : Option ClassId) : Class where
  name := name
  kind := .ordinary
  loader := none
  accessFlags := 33
  super := sup
  interfaces := #[]
  cf := none
  fields := #[]
  methods := #[]
  instanceTypes := #[]
  staticTypes := #[]
  resolved := #[]
  callSites := []
  init := .initialized
  statics := none
  mirror := none

def pool0 : Array CpInfo := pool [(5, u "<init>"), (0, u "()V"), (1, .class_ 10), (1, u "java/lang/Object")] 113

def k0m0 : Method := { name := "<init>", desc := "()V", sig := { parameters := [], returnType := none }, accessFlags := 1, code := none }
/-- java/lang/Object -/
def k0 : Class := { plain "java/lang/Object" none with
  accessFlags := 33
  interfaces := #[]
  cf := some (fileOf pool0 8 #[] #[{ accessFlags := 1, nameIndex := 5, descriptorIndex := 6, attributes := #[] }] 33 0 #[] #[])
  fields := #[]
  methods := #[k0m0]
  instanceTypes := #[]
  staticTypes := #[]
  resolved := Array.replicate 124 none
  statics := none }

def pool1 : Array CpInfo := pool [(2, .class_ 4), (1, u "java/lang/Object"), (0, u "<init>"), (0, u "()V"), (0, .integer 2147483647), (0, .class_ 9), (0, u "com/example/restless_reasoner/restlessreasoner/engine/tableau/Premises"), (0, .methodref 8 11), (0, .nameAndType 12 13), (0, u "isEquality"), (0, u "([I)Z"), (0, .methodref 8 15), (0, .nameAndType 16 13), (0, u "isInequality"), (0, .methodref 8 18), (0, .nameAndType 19 13), (0, u "isLink"), (0, .methodref 8 21), (0, .nameAndType 22 13), (0, u "isMembership"), (0, .methodref 8 24), (0, .nameAndType 25 26), (0, u "identity"), (0, u "(I[I)[I"), (0, .class_ 28), (0, u "com/example/restless_reasoner/restlessreasoner/engine/tableau/PremisesIsEqualityPinLaw"), (2, u "law"), (0, u "(IIIIII)Z")] 5

def k1m0 : Method := { name := "<init>", desc := "()V", sig := { parameters := [], returnType := none }, accessFlags := 1, code := none }
def k1c1 : Code := { maxStack := 4, maxLocals := 13, code := code, exceptionTable := #[], attributes := #[] }
def k1m1 : Method := { name := "law", desc := "(IIIIII)Z", sig := { parameters := [.int, .int, .int, .int, .int, .int], returnType := some .boolean }, accessFlags := 9, code := some k1c1 }
/-- com/example/restless_reasoner/restlessreasoner/engine/tableau/PremisesIsEqualityPinLaw -/
def k1 : Class := { plain "com/example/restless_reasoner/restlessreasoner/engine/tableau/PremisesIsEqualityPinLaw" (some 0) with
  accessFlags := 49
  interfaces := #[]
  cf := some (fileOf pool1 27 #[] #[{ accessFlags := 1, nameIndex := 5, descriptorIndex := 6, attributes := #[] }, { accessFlags := 9, nameIndex := 31, descriptorIndex := 32, attributes := #[] }] 49 2 #[] #[])
  fields := #[]
  methods := #[k1m0, k1m1]
  instanceTypes := #[]
  staticTypes := #[]
  resolved := Array.replicate 38 none
  statics := none }

def pool2 : Array CpInfo := pool [(2, .class_ 4), (1, u "java/lang/Object"), (0, u "<init>"), (0, u "()V"), (4, .class_ 13), (1, u "com/example/restless_reasoner/restlessreasoner/engine/tableau/Premises"), (0, u "facts"), (0, u "Ljava/util/List;"), (2, u "about"), (5, u "retracted"), (0, u "Ljava/util/BitSet;"), (2, u "links"), (2, u "identities"), (2, u "statementPremises"), (0, u "[I"), (4, u "statements"), (0, u "[Lcom/example/restless_reasoner/restlessreasoner/engine/tableau/DependencySet;"), (0, .methodref 43 44), (0, .class_ 45), (0, .nameAndType 46 47), (0, u "java/lang/System"), (0, u "arraycopy"), (0, u "(Ljava/lang/Object;ILjava/lang/Object;II)V"), (33, u "isLink"), (0, u "([I)Z"), (6, u "isEquality"), (2, u "isInequality"), (86, u "isMembership"), (16, u "SAME"), (0, u "I"), (2, u "DIFFERENT"), (7, u "identity"), (0, u "(I[I)[I")] 32

def k2m0 : Method := { name := "<init>", desc := "()V", sig := { parameters := [], returnType := none }, accessFlags := 0, code := none }
def k2c1 : Code := { maxStack := 2, maxLocals := 1, code := prog_45_method_2_code, exceptionTable := #[], attributes := #[] }
def k2m1 : Method := { name := "isMembership", desc := "([I)Z", sig := { parameters := [(.array .int)], returnType := some .boolean }, accessFlags := 8, code := some k2c1 }
def k2c2 : Code := { maxStack := 2, maxLocals := 1, code := prog_45_method_3_code, exceptionTable := #[], attributes := #[] }
def k2m2 : Method := { name := "isLink", desc := "([I)Z", sig := { parameters := [(.array .int)], returnType := some .boolean }, accessFlags := 8, code := some k2c2 }
def k2c3 : Code := { maxStack := 2, maxLocals := 1, code := prog_45_method_4_code, exceptionTable := #[], attributes := #[] }
def k2m3 : Method := { name := "isEquality", desc := "([I)Z", sig := { parameters := [(.array .int)], returnType := some .boolean }, accessFlags := 8, code := some k2c3 }
def k2c4 : Code := { maxStack := 2, maxLocals := 1, code := prog_45_method_5_code, exceptionTable := #[], attributes := #[] }
def k2m4 : Method := { name := "isInequality", desc := "([I)Z", sig := { parameters := [(.array .int)], returnType := some .boolean }, accessFlags := 8, code := some k2c4 }
def k2c5 : Code := { maxStack := 6, maxLocals := 3, code := prog_45_method_6_code, exceptionTable := #[], attributes := #[] }
def k2m5 : Method := { name := "identity", desc := "(I[I)[I", sig := { parameters := [.int, (.array .int)], returnType := some (.array .int) }, accessFlags := 8, code := some k2c5 }
/-- com/example/restless_reasoner/restlessreasoner/engine/tableau/Premises -/
def k2 : Class := { plain "com/example/restless_reasoner/restlessreasoner/engine/tableau/Premises" (some 0) with
  accessFlags := 48
  interfaces := #[]
  cf := some (fileOf pool2 11 #[] #[{ accessFlags := 0, nameIndex := 5, descriptorIndex := 6, attributes := #[] }, { accessFlags := 8, nameIndex := 179, descriptorIndex := 82, attributes := #[] }, { accessFlags := 8, nameIndex := 81, descriptorIndex := 82, attributes := #[] }, { accessFlags := 8, nameIndex := 89, descriptorIndex := 82, attributes := #[] }, { accessFlags := 8, nameIndex := 92, descriptorIndex := 82, attributes := #[] }, { accessFlags := 8, nameIndex := 208, descriptorIndex := 209, attributes := #[] }] 48 2 #[] #[{ accessFlags := 24, nameIndex := 196, descriptorIndex := 197, attributes := #[] }, { accessFlags := 24, nameIndex := 200, descriptorIndex := 197, attributes := #[] }, { accessFlags := 18, nameIndex := 14, descriptorIndex := 15, attributes := #[] }, { accessFlags := 18, nameIndex := 18, descriptorIndex := 15, attributes := #[] }, { accessFlags := 18, nameIndex := 24, descriptorIndex := 25, attributes := #[] }, { accessFlags := 18, nameIndex := 28, descriptorIndex := 25, attributes := #[] }, { accessFlags := 18, nameIndex := 31, descriptorIndex := 25, attributes := #[] }, { accessFlags := 2, nameIndex := 34, descriptorIndex := 35, attributes := #[] }, { accessFlags := 2, nameIndex := 40, descriptorIndex := 41, attributes := #[] }])
  fields := #[{ name := "SAME", type := .int, accessFlags := 24, slot := 0, constantValue := 0 }, { name := "DIFFERENT", type := .int, accessFlags := 24, slot := 1, constantValue := 0 }, { name := "facts", type := (.object "java/util/List"), accessFlags := 18, slot := 0, constantValue := 0 }, { name := "about", type := (.object "java/util/List"), accessFlags := 18, slot := 1, constantValue := 0 }, { name := "retracted", type := (.object "java/util/BitSet"), accessFlags := 18, slot := 2, constantValue := 0 }, { name := "links", type := (.object "java/util/BitSet"), accessFlags := 18, slot := 3, constantValue := 0 }, { name := "identities", type := (.object "java/util/BitSet"), accessFlags := 18, slot := 4, constantValue := 0 }, { name := "statementPremises", type := (.array .int), accessFlags := 2, slot := 5, constantValue := 0 }, { name := "statements", type := (.array (.object "com/example/restless_reasoner/restlessreasoner/engine/tableau/DependencySet")), accessFlags := 2, slot := 6, constantValue := 0 }]
  methods := #[k2m0, k2m1, k2m2, k2m3, k2m4, k2m5]
  instanceTypes := #[(.object "java/util/List"), (.object "java/util/List"), (.object "java/util/BitSet"), (.object "java/util/BitSet"), (.object "java/util/BitSet"), (.array .int), (.array (.object "com/example/restless_reasoner/restlessreasoner/engine/tableau/DependencySet"))]
  staticTypes := #[.int, .int]
  resolved := Array.replicate 242 none
  statics := none }

def pool3 : Array CpInfo := pool [(2, .class_ 4), (1, u "java/lang/Object"), (0, u "<init>"), (0, u "()V"), (1, .class_ 10), (1, u "java/lang/System"), (0, u "allowSecurityManager"), (0, u "I"), (16, u "cons"), (0, u "Ljava/io/Console;"), (77, .class_ 110), (1, u "java/lang/System$CallersHolder"), (43, u "initialErrStream"), (0, u "Ljava/io/PrintStream;"), (19, u "security"), (0, u "Ljava/lang/SecurityManager;"), (31, .class_ 209), (0, u "java/lang/System$1"), (7, u "props"), (0, u "Ljava/util/Properties;"), (2, u "lineSeparator"), (0, u "Ljava/lang/String;"), (96, .class_ 321), (1, u "java/lang/System$LoggerFinder"), (5, .class_ 328), (0, u "java/lang/System$Logger"), (67, u "err"), (2, u "out"), (91, u "notSupportedJnuEncoding"), (15, u "in"), (17, u "initialIn"), (0, u "Ljava/io/InputStream;"), (35, u "bootLayer"), (0, u "Ljava/lang/ModuleLayer;"), (99, .class_ 664), (0, u "java/lang/System$2"), (9, u "NEVER"), (2, u "MAYBE"), (49, u "arraycopy"), (0, u "(Ljava/lang/Object;ILjava/lang/Object;II)V"), (72, .class_ 802), (0, u "java/lang/System$Logger$Level")] 31

def k3m0 : Method := { name := "<init>", desc := "()V", sig := { parameters := [], returnType := none }, accessFlags := 2, code := none }
def k3m1 : Method := { name := "arraycopy", desc := "(Ljava/lang/Object;ILjava/lang/Object;II)V", sig := { parameters := [(.object "java/lang/Object"), .int, (.object "java/lang/Object"), .int, .int], returnType := none }, accessFlags := 265, code := none }
/-- java/lang/System -/
def k3 : Class := { plain "java/lang/System" (some 0) with
  accessFlags := 49
  interfaces := #[]
  cf := some (fileOf pool3 8 #[.nestMembers #[319, 327, 801, 108, 663, 208]] #[{ accessFlags := 2, nameIndex := 5, descriptorIndex := 6, attributes := #[] }, { accessFlags := 265, nameIndex := 727, descriptorIndex := 728, attributes := #[] }] 49 2 #[] #[{ accessFlags := 25, nameIndex := 507, descriptorIndex := 526, attributes := #[] }, { accessFlags := 25, nameIndex := 399, descriptorIndex := 155, attributes := #[] }, { accessFlags := 25, nameIndex := 396, descriptorIndex := 155, attributes := #[] }, { accessFlags := 10, nameIndex := 525, descriptorIndex := 526, attributes := #[] }, { accessFlags := 26, nameIndex := 674, descriptorIndex := 12, attributes := #[] }, { accessFlags := 26, nameIndex := 677, descriptorIndex := 12, attributes := #[] }, { accessFlags := 10, nameIndex := 11, descriptorIndex := 12, attributes := #[] }, { accessFlags := 74, nameIndex := 175, descriptorIndex := 176, attributes := #[] }, { accessFlags := 10, nameIndex := 491, descriptorIndex := 222, attributes := #[] }, { accessFlags := 74, nameIndex := 29, descriptorIndex := 30, attributes := #[] }, { accessFlags := 74, nameIndex := 154, descriptorIndex := 155, attributes := #[] }, { accessFlags := 10, nameIndex := 217, descriptorIndex := 218, attributes := #[] }, { accessFlags := 10, nameIndex := 221, descriptorIndex := 222, attributes := #[] }, { accessFlags := 8, nameIndex := 562, descriptorIndex := 563, attributes := #[] }])
  fields := #[{ name := "in", type := (.object "java/io/InputStream"), accessFlags := 25, slot := 0, constantValue := 0 }, { name := "out", type := (.object "java/io/PrintStream"), accessFlags := 25, slot := 1, constantValue := 0 }, { name := "err", type := (.object "java/io/PrintStream"), accessFlags := 25, slot := 2, constantValue := 0 }, { name := "initialIn", type := (.object "java/io/InputStream"), accessFlags := 10, slot := 3, constantValue := 0 }, { name := "NEVER", type := .int, accessFlags := 26, slot := 4, constantValue := 0 }, { name := "MAYBE", type := .int, accessFlags := 26, slot := 5, constantValue := 0 }, { name := "allowSecurityManager", type := .int, accessFlags := 10, slot := 6, constantValue := 0 }, { name := "security", type := (.object "java/lang/SecurityManager"), accessFlags := 74, slot := 7, constantValue := 0 }, { name := "notSupportedJnuEncoding", type := (.object "java/lang/String"), accessFlags := 10, slot := 8, constantValue := 0 }, { name := "cons", type := (.object "java/io/Console"), accessFlags := 74, slot := 9, constantValue := 0 }, { name := "initialErrStream", type := (.object "java/io/PrintStream"), accessFlags := 74, slot := 10, constantValue := 0 }, { name := "props", type := (.object "java/util/Properties"), accessFlags := 10, slot := 11, constantValue := 0 }, { name := "lineSeparator", type := (.object "java/lang/String"), accessFlags := 10, slot := 12, constantValue := 0 }, { name := "bootLayer", type := (.object "java/lang/ModuleLayer"), accessFlags := 8, slot := 13, constantValue := 0 }]
  methods := #[k3m0, k3m1]
  instanceTypes := #[]
  staticTypes := #[(.object "java/io/InputStream"), (.object "java/io/PrintStream"), (.object "java/io/PrintStream"), (.object "java/io/InputStream"), .int, .int, .int, (.object "java/lang/SecurityManager"), (.object "java/lang/String"), (.object "java/io/Console"), (.object "java/io/PrintStream"), (.object "java/util/Properties"), (.object "java/lang/String"), (.object "java/lang/ModuleLayer")]
  resolved := Array.replicate 834 none
  statics := none }

def pool4 : Array CpInfo := pool [(1, u "java/lang/Cloneable"), (0, .class_ 1), (0, u "java/lang/Object"), (0, .class_ 3)] 3

/-- java/lang/Cloneable -/
def k4 : Class := { plain "java/lang/Cloneable" (some 0) with
  accessFlags := 1537
  interfaces := #[]
  cf := some (fileOf pool4 2 #[] #[] 1537 4 #[] #[])
  fields := #[]
  methods := #[]
  instanceTypes := #[]
  staticTypes := #[]
  resolved := Array.replicate 8 none
  statics := none }

def pool5 : Array CpInfo := pool [(1, u "java/io/Serializable"), (0, .class_ 1), (0, u "java/lang/Object"), (0, .class_ 3)] 3

/-- java/io/Serializable -/
def k5 : Class := { plain "java/io/Serializable" (some 0) with
  accessFlags := 1537
  interfaces := #[]
  cf := some (fileOf pool5 2 #[] #[] 1537 4 #[] #[])
  fields := #[]
  methods := #[]
  instanceTypes := #[]
  staticTypes := #[]
  resolved := Array.replicate 8 none
  statics := none }

/-- the primitive byte -/
def k6 : Class := { plain "byte" none with kind := .primitive 'B', accessFlags := 0x411 }
/-- [B -/
def k7 : Class := { plain "[B" (some 0) with kind := .array 6 .byte, interfaces := #[4, 5], accessFlags := 1041 }

/-- the primitive int -/
def k8 : Class := { plain "int" none with kind := .primitive 'I', accessFlags := 0x411 }
/-- [I -/
def k9 : Class := { plain "[I" (some 0) with kind := .array 8 .int, interfaces := #[4, 5], accessFlags := 1041 }

def heap : Heap := #[]
def classes : Array Class := #[k0, k1, k2, k3, k4, k5, k6, k7, k8, k9]
def interned : List (Array UInt16 × Addr) := []
def slotsUsed : Nat := 0
def theMethod : MethodId := ⟨1, 1⟩
def args0 : Array Value := #[.int 3, .int 1, .int 2, .int 4, .int 5, .int 6]
def aboutOver (below : List Frame) : State where
  vm := { classes := classes, interned := interned.toArray }
  heap := heap
  slotsUsed := slotsUsed
  threads := #[{ frames := .invoking theMethod args0 :: below }]
def below0 : List Frame := [.native { method := ⟨0, 0⟩, args := #[] }]
def about1 : State := aboutOver below0
def p0 : Program := .bare "" "" ""
def e0 : Env := launch0.env 0 0 0
theorem w_frames : about1.frames = Frame.invoking theMethod args0 :: below0 := rfl
set_option maxRecDepth 65536 in
theorem w_args : argsFit about1.vm theMethod args0 = true := by decide +kernel
set_option maxRecDepth 65536 in
theorem w_heap : heapFits about1 = true := by decide +kernel
set_option maxRecDepth 65536 in
theorem w_runnable : about1.curStatus? = some .runnable := by decide +kernel
set_option maxRecDepth 65536 in
theorem w_alone : about1.alone = true := by decide +kernel
set_option maxRecDepth 65536 in
theorem w_named : about1.methodNamed? x = some theMethod := by decide +kernel
set_option maxRecDepth 65536 in
theorem w_hears : about1.hears theMethod below0 = true := by decide +kernel
set_option maxRecDepth 65536 in
theorem w_ripe : about1.ripe theMethod args0 below0 = true := by decide +kernel
theorem w_running : about1.status = .running := rfl
set_option maxRecDepth 65536 in
theorem w_room : about1.hasRoom e0.platform room_1 = true :=
  launch0.hasRoom_least _ room_1 (by decide +kernel) (by decide +kernel) (by decide +kernel) (by decide +kernel) (by decide +kernel) (by decide +kernel)
theorem allAtoms_all (ts : List Jvm.Cond) (a : Array Jvm.Value) (st : Jvm.State) : (allAtoms ts).before a st = ts.all (fun c => c.before a st) := by
  induction ts with
  | nil => rfl
  | cons c t ih =>
    show (Jvm.Cond.and c (allAtoms t)).before a st = _
    rw [Jvm.Cond.before_and, ih, List.all_cons]
def words1 : List Jvm.Cond := Jvm.Cond.code x code maxLocals ret :: tables_1
/-- a 'code' word, met by the world's own term for the bytes: nothing is compared byte by byte -/
theorem code_word {y : MethodName} {bytes : ByteArray} {mx : Nat} {rt : Option FieldType} {a : Array Value} {s : State} {m : MethodId} {meth : Method} {c : Code} (h1 : s.methodNamed? y = some m) (h2 : s.vm.method? m = some meth) (h3 : meth.code = some c) (h4 : c.code = bytes)
    (h5 : (c.maxLocals == mx && c.exceptionTable.isEmpty && decide (c.maxStack ≤ mostOperands) && decide (meth.sig.returnType = rt) && !meth.locks && decide (parseMethodDescriptor y.desc = some meth.sig)) = true) : (Jvm.Cond.code y bytes mx rt).before a s = true := by
  simp only [Bool.and_eq_true, beq_iff_eq, Bool.not_eq_true', decide_eq_true_eq] at h5
  obtain ⟨⟨⟨⟨⟨g1, g2⟩, g3⟩, g4⟩, g5⟩, g6⟩ := h5
  simp [Cond.before, Cond.holds, Cond.value, h1, h2, h3, h4, g1, g2, g3, g4, g5, g6]
def isCode : Jvm.Cond → Bool
  | .code _ _ _ _ => true
  | _ => false
theorem all_split {L : List Jvm.Cond} {P : Jvm.Cond → Bool} (h1 : L.all (fun c => isCode c || P c) = true) (h2 : ∀ c ∈ L.filter isCode, P c = true) : L.all P = true := by
  refine List.all_eq_true.mpr fun c hc => ?_
  have h := List.all_eq_true.mp h1 c hc
  rcases Bool.eq_false_or_eq_true (isCode c) with hi | hi
  · exact h2 c (List.mem_filter.mpr ⟨hc, hi⟩)
  · simpa [hi] using h
set_option maxRecDepth 65536 in
theorem w_c0 : (Jvm.Cond.code x code maxLocals ret).before args0 about1 = true := code_word (m := ⟨1, 1⟩) (meth := k1m1) (c := k1c1) (by decide +kernel) rfl rfl rfl (by decide +kernel)
set_option maxRecDepth 65536 in
theorem w_c1 : (Jvm.Cond.code ({ cls := "com/example/restless_reasoner/restlessreasoner/engine/tableau/Premises", name := "isEquality", desc := "([I)Z" } : Jvm.MethodName) prog_45_method_4_code (1 : Nat) (Option.some Jvm.ClassFile.FieldType.boolean)).before args0 about1 = true := code_word (m := ⟨2, 3⟩) (meth := k2m3) (c := k2c3) (by decide +kernel) rfl rfl rfl (by decide +kernel)
set_option maxRecDepth 65536 in
theorem w_c2 : (Jvm.Cond.code ({ cls := "com/example/restless_reasoner/restlessreasoner/engine/tableau/Premises", name := "identity", desc := "(I[I)[I" } : Jvm.MethodName) prog_45_method_6_code (3 : Nat) (Option.some (Jvm.ClassFile.FieldType.array Jvm.ClassFile.FieldType.int))).before args0 about1 = true := code_word (m := ⟨2, 5⟩) (meth := k2m5) (c := k2c5) (by decide +kernel) rfl rfl rfl (by decide +kernel)
set_option maxRecDepth 65536 in
theorem w_c3 : (Jvm.Cond.code ({ cls := "com/example/restless_reasoner/restlessreasoner/engine/tableau/Premises", name := "isInequality", desc := "([I)Z" } : Jvm.MethodName) prog_45_method_5_code (1 : Nat) (Option.some Jvm.ClassFile.FieldType.boolean)).before args0 about1 = true := code_word (m := ⟨2, 4⟩) (meth := k2m4) (c := k2c4) (by decide +kernel) rfl rfl rfl (by decide +kernel)
set_option maxRecDepth 65536 in
theorem w_c4 : (Jvm.Cond.code ({ cls := "com/example/restless_reasoner/restlessreasoner/engine/tableau/Premises", name := "isLink", desc := "([I)Z" } : Jvm.MethodName) prog_45_method_3_code (1 : Nat) (Option.some Jvm.ClassFile.FieldType.boolean)).before args0 about1 = true := code_word (m := ⟨2, 2⟩) (meth := k2m2) (c := k2c2) (by decide +kernel) rfl rfl rfl (by decide +kernel)
set_option maxRecDepth 65536 in
theorem w_c5 : (Jvm.Cond.code ({ cls := "com/example/restless_reasoner/restlessreasoner/engine/tableau/Premises", name := "isMembership", desc := "([I)Z" } : Jvm.MethodName) prog_45_method_2_code (1 : Nat) (Option.some Jvm.ClassFile.FieldType.boolean)).before args0 about1 = true := code_word (m := ⟨2, 1⟩) (meth := k2m1) (c := k2c1) (by decide +kernel) rfl rfl rfl (by decide +kernel)
def codes1 : List Jvm.Cond := [Jvm.Cond.code x code maxLocals ret, Jvm.Cond.code ({ cls := "com/example/restless_reasoner/restlessreasoner/engine/tableau/Premises", name := "isEquality", desc := "([I)Z" } : Jvm.MethodName) prog_45_method_4_code (1 : Nat) (Option.some Jvm.ClassFile.FieldType.boolean), Jvm.Cond.code ({ cls := "com/example/restless_reasoner/restlessreasoner/engine/tableau/Premises", name := "identity", desc := "(I[I)[I" } : Jvm.MethodName) prog_45_method_6_code (3 : Nat) (Option.some (Jvm.ClassFile.FieldType.array Jvm.ClassFile.FieldType.int)), Jvm.Cond.code ({ cls := "com/example/restless_reasoner/restlessreasoner/engine/tableau/Premises", name := "isInequality", desc := "([I)Z" } : Jvm.MethodName) prog_45_method_5_code (1 : Nat) (Option.some Jvm.ClassFile.FieldType.boolean), Jvm.Cond.code ({ cls := "com/example/restless_reasoner/restlessreasoner/engine/tableau/Premises", name := "isLink", desc := "([I)Z" } : Jvm.MethodName) prog_45_method_3_code (1 : Nat) (Option.some Jvm.ClassFile.FieldType.boolean), Jvm.Cond.code ({ cls := "com/example/restless_reasoner/restlessreasoner/engine/tableau/Premises", name := "isMembership", desc := "([I)Z" } : Jvm.MethodName) prog_45_method_2_code (1 : Nat) (Option.some Jvm.ClassFile.FieldType.boolean)]
set_option maxRecDepth 65536 in
theorem codes_eq : words1.filter isCode = codes1 := rfl
theorem w_codes : ∀ c ∈ words1.filter isCode, c.before args0 about1 = true := by
  rw [codes_eq]
  intro c hc
  simp only [codes1, List.mem_cons, List.not_mem_nil, or_false] at hc
  rcases hc with rfl | rfl | rfl | rfl | rfl | rfl
  · exact w_c0
  · exact w_c1
  · exact w_c2
  · exact w_c3
  · exact w_c4
  · exact w_c5
set_option maxRecDepth 65536 in
theorem w_t1 : words1.all (fun c => isCode c || c.before args0 about1) = true := by decide +kernel
theorem w_tables : (allAtoms (Jvm.Cond.code x code maxLocals ret :: tables_1)).before args0 about1 = true := by
  rw [allAtoms_all]
  show words1.all (fun c => c.before args0 about1) = true
  refine all_split ?_ w_codes
  rw [w_t1]
set_option maxRecDepth 65536 in
theorem w_case : (Jvm.Cond.and given_1 narrow_1).before args0 about1 = true := by decide +kernel
theorem w_applies : (headSpec (Jvm.Cond.code x code maxLocals ret :: tables_1) room_1).applies x e0.platform about1 = true :=
  (Spec.applies_iff w_frames).mpr ⟨w_running, w_runnable, w_alone, w_named, w_hears, w_ripe, w_room, w_tables⟩
theorem atStart : AtStart classFile x code maxLocals ret World_1 tables_1 room_1 Calls_1 rest_1 Pre_1 launch0 p0 e0 about1 theMethod args0 below0 :=
  ⟨lists_1, trivial, launch0.admits_env _ _ _, launch0.least_env, fairChoices_fair.cas, fairChoices_fair.clock, w_frames, w_args, w_heap, w_applies, trivial, trivial, w_case⟩
end start1
theorem witness_1 : WitnessClaimed_1 := ⟨start1.p0, start1.e0, start1.about1, start1.theMethod, start1.args0, start1.below0, start1.atStart⟩
end Jvm.Pilot.@@N@@
