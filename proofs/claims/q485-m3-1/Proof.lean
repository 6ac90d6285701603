import JvmDerived
import JvmDerived.Pilot.@@N@@Statement
import JvmDerived.Pilot.@@N@@Code
set_option linter.unusedVariables false
set_option linter.unusedSimpArgs false
namespace Jvm.RoadKit
open Sem ClassFile Op Lib Jvm.Stand Jvm.Free Jvm.LawKit
section New
variable {p : Program} {l : Launch} {e : Env} {R : Room} {s : State} {m : MethodId} {args : Array Value} {below : List Frame} {meth : Method} {c : Code} {T : State} {locs : List Loc} {cells slots : Nat}
theorem retI (X : Stand p l e R s m args below meth c T locs cells slots) (hx : p.tables.exec = Jvm.exec) {pc : Nat} {Ls : Array Slot} {z : Int32} {rest : List Value} (hret : meth.sig.returnType = some .int) (hd : decode c.code pc = .ok (.ireturn, 1)) {fs : List Frame}
    (hl : ∀ (f : JFrame) (acts : List Action), f.method = m → f.locked = none → f.entered = [] → (doReturn e (T.setTop f) acts (some (.int z))).1 = T.setFrames fs) : Steps p.tables e below (T.setTop (mkF m pc Ls (.int z :: rest))) (T.setFrames fs) := by
  have hm' : T.vm.method? m = some meth := X.method'
  have hn : narrow .int (.int z) = .int z := rfl
  show Steps p.tables e below (T.setTop { method := m, pc := pc, locals := Ls, stack := _ :: rest, locked := none }) _
  jvm_step X.here [X.here.top, hx, hd, hm', hret, hn]
  first | (intro acts; rw [hl _ acts rfl rfl rfl]) | rw [hl _ _ rfl rfl rfl]
  exact Steps.refl _
theorem retJ (X : Stand p l e R s m args below meth c T locs cells slots) (hx : p.tables.exec = Jvm.exec) {pc : Nat} {Ls : Array Slot} {z : Int64} {rest : List Value} (hret : meth.sig.returnType = some .long) (hd : decode c.code pc = .ok (.lreturn, 1)) {fs : List Frame}
    (hl : ∀ (f : JFrame) (acts : List Action), f.method = m → f.locked = none → f.entered = [] → (doReturn e (T.setTop f) acts (some (.long z))).1 = T.setFrames fs) : Steps p.tables e below (T.setTop (mkF m pc Ls (.long z :: rest))) (T.setFrames fs) := by
  have hm' : T.vm.method? m = some meth := X.method'
  have hn : narrow .long (.long z) = .long z := rfl
  show Steps p.tables e below (T.setTop { method := m, pc := pc, locals := Ls, stack := _ :: rest, locked := none }) _
  jvm_step X.here [X.here.top, hx, hd, hm', hret, hn]
  first | (intro acts; rw [hl _ acts rfl rfl rfl]) | rw [hl _ _ rfl rfl rfl]
  exact Steps.refl _
end New
end Jvm.RoadKit
namespace Jvm.Pilot.@@N@@
open Jvm Jvm.ClassFile Sem Op Lib Jvm.Free Jvm.Stand Jvm.LawKit Jvm.RoadKit Bundle Jvm.Pilot.@@N@@.Jvm.D
def QV (w : Option Value) (h0 : Heap) (n0 : Nat) (v : Option Value) (h : Heap) (L : List Loc) : Prop := v = w ∧ Fr n0 L ∧ h = h0
def RF (Z : State) (h : Heap) (a : Addr) : Prop := Exa Z h a "com/example/cell5/cell5/http/Reply" ∧ (∃ u, Fld Z h a "com/example/cell5/cell5/http/Reply" "status" "I" u) ∧ (∃ u, Fld Z h a "com/example/cell5/cell5/http/Reply" "body" "[B" u) ∧ (∃ u, Fld Z h a "com/example/cell5/cell5/http/Reply" "location" "Ljava/lang/String;" u) ∧ (∃ u, Fld Z h a "com/example/cell5/cell5/http/Reply" "type" "Ljava/lang/String;" u) ∧ (∃ u, Fld Z h a "com/example/cell5/cell5/http/Reply" "streamed" "Lcom/example/cell5/cell5/http/Reply$Streamed;" u)
theorem RF.ext {Z : State} {h h' : Heap} {a : Addr} (F : RF Z h a) (E : Ext h h') : RF Z h' a := by
  obtain ⟨e, ⟨u1, f1⟩, ⟨u2, f2⟩, ⟨u3, f3⟩, ⟨u4, f4⟩, ⟨u5, f5⟩⟩ := F
  exact ⟨e.ext E, ⟨u1, f1.ext E⟩, ⟨u2, f2.ext E⟩, ⟨u3, f3.ext E⟩, ⟨u4, f4.ext E⟩, ⟨u5, f5.ext E⟩⟩
theorem RF.keep {Z : State} {h h' : Heap} {a : Addr} {ws : List Addr} (F : RF Z h a) (K : Keep h h' ws) (q : a ∉ ws) : RF Z h' a := by
  obtain ⟨e, ⟨u1, f1⟩, ⟨u2, f2⟩, ⟨u3, f3⟩, ⟨u4, f4⟩, ⟨u5, f5⟩⟩ := F
  exact ⟨e.keep K, ⟨u1, f1.keep K q⟩, ⟨u2, f2.keep K q⟩, ⟨u3, f3.keep K q⟩, ⟨u4, f4.keep K q⟩, ⟨u5, f5.keep K q⟩⟩
def RD (Z : State) (h : Heap) (a b : Addr) (v : Value) : Prop := Exa Z h a "com/example/cell5/cell5/http/Reply" ∧ Fld Z h a "com/example/cell5/cell5/http/Reply" "body" "[B" (.ref b) ∧ Fld Z h a "com/example/cell5/cell5/http/Reply" "streamed" "Lcom/example/cell5/cell5/http/Reply$Streamed;" v
theorem RD.ext {Z : State} {h h' : Heap} {a b : Addr} {v : Value} (F : RD Z h a b v) (E : Ext h h') : RD Z h' a b v := ⟨F.1.ext E, F.2.1.ext E, F.2.2.ext E⟩
theorem RD.keep {Z : State} {h h' : Heap} {a b : Addr} {v : Value} {ws : List Addr} (F : RD Z h a b v) (K : Keep h h' ws) (q : a ∉ ws) : RD Z h' a b v := ⟨F.1.keep K, F.2.1.keep K q, F.2.2.keep K q⟩
def SF (Z : State) (h : Heap) (a : Addr) : Prop := Exa Z h a "com/example/cell5/cell5/http/Reply$Streamed" ∧ (∃ u, Fld Z h a "com/example/cell5/cell5/http/Reply$Streamed" "length" "J" u) ∧ ∃ u, Fld Z h a "com/example/cell5/cell5/http/Reply$Streamed" "bytes" "Ljava/io/InputStream;" u
def SD (Z : State) (h : Heap) (a : Addr) (q : Int64) : Prop := Exa Z h a "com/example/cell5/cell5/http/Reply$Streamed" ∧ Fld Z h a "com/example/cell5/cell5/http/Reply$Streamed" "length" "J" (.long q)
theorem SD.ext {Z : State} {h h' : Heap} {a : Addr} {q : Int64} (F : SD Z h a q) (E : Ext h h') : SD Z h' a q := ⟨F.1.ext E, F.2.ext E⟩
theorem SD.keep {Z : State} {h h' : Heap} {a : Addr} {q : Int64} {ws : List Addr} (F : SD Z h a q) (K : Keep h h' ws) (n : a ∉ ws) : SD Z h' a q := ⟨F.1.keep K, F.2.keep K n⟩
theorem own_nin {a b : Addr} (h : a ≠ b) : a ∉ [b] := fun q => h (List.mem_singleton.mp q)
theorem own_lt {a b n : Nat} (h : a < n) (g : b = n) : a ≠ b := fun q => by omega
def QR (Z : State) (a b : Addr) (w : Value) (h0 : Heap) (n0 : Nat) (v : Option Value) (h : Heap) (L : List Loc) : Prop := v = none ∧ Fr n0 L ∧ Keep h0 h [a] ∧ RD Z h a b w
def QS (Z : State) (a : Addr) (q : Int64) (h0 : Heap) (n0 : Nat) (v : Option Value) (h : Heap) (L : List Loc) : Prop := v = none ∧ Fr n0 L ∧ Keep h0 h [a] ∧ SD Z h a q
def QT (Z : State) (q : Int64) (h0 : Heap) (n0 : Nat) (v : Option Value) (h : Heap) (L : List Loc) : Prop := ∃ b s bb : Addr, v = some (.ref b) ∧ Fr n0 L ∧ Keep h0 h [] ∧ RD Z h b bb (.ref s) ∧ SD Z h s q
theorem d3_0 : decode jdk_30_method_1_code 0 = .ok (.aload_n 0, 1) := by decide +kernel
theorem d3_1 : decode jdk_30_method_1_code 1 = .ok (.invokespecial 1, 3) := by decide +kernel
theorem d3_4 : decode jdk_30_method_1_code 4 = .ok (.return_, 1) := by decide +kernel
theorem pn_3 : plainName "java/lang/Record" = true := by first | (simp [plainName, overriddenIn]; done) | decide +kernel
theorem ef_3 (m : MethodId) (x0 : Addr) : entryFrame m #[(.ref x0)] 1 = mkF m 0 #[.val (.ref x0)] [] := by first | (simp [entryFrame, mkF, argsToLocals, Value.category]; done) | rfl
set_option maxRecDepth 65536 in
set_option maxHeartbeats 40000000 in
theorem rm3 (l : Launch) (Z : State) (a0 : Array Value) (hw : ∀ d ∈ tables_1, d.before a0 Z = true) (ws : List Jvm.Cond) (a1 : Addr) (h0 : Heap) (n0 : Nat) (Z0 : n0 ≤ h0.size) :
    MetFree l (⟨"java/lang/Record", "<init>", "()V"⟩ : MethodName) (head1 (Jvm.Cond.code (⟨"java/lang/Record", "<init>", "()V"⟩ : MethodName) jdk_30_method_1_code 1 none :: ws) ({ frames := 1, cells := 0, slots := 0, locals := 12 } : Room)) (fun a U => a = #[(.ref a1)] ∧ Z.Warmed39 U.vm ∧ U.heap = h0) (fun _ _ _ _ _ => True) (fun _ U o U' => ∃ v L, o = .returned v ∧ QV none h0 n0 v U'.heap L ∧ FrameEnd U o U' L ({ frames := 1, cells := 0, slots := 0, locals := 12 } : Room).cells ({ frames := 1, cells := 0, slots := 0, locals := 12 } : Room).slots) := by
  refine MetFree.of_bodySF (plainFor_of_name pn_3) hisR ?_
  intro p e s m args below meth c s₁ Bd hml0 hP hK
  obtain ⟨rfl, hZ, hh⟩ := hP
  have hx := Bd.exec
  have hby := Bd.bytes
  have hml : c.maxLocals = 1 := hml0
  have hown : s.vm.findClass "java/lang/Record" = some m.cls := findClass_of_methodNamed Bd.named
  have hnm := (name_of_methodNamed Bd.named Bd.method).1
  have X0 : Stand p l e ({ frames := 1, cells := 0, slots := 0, locals := 12 } : Room) s m #[(.ref a1)] below meth c s₁ [] 0 0 := Stand.of_body Bd
  have e0 : s₁.heap = h0 := by rw [← hh, Bd.state]; rfl
  have N0 := Fr.nil n0
  have pre0 : ∀ t, Steps p.tables e below (s₁.setTop (mkF m 0 #[.val (.ref a1)] [])) t → Steps p.tables e below (s₁.setTop (entryFrame m #[(.ref a1)] 1)) t := fun t k => castTop (ef_3 m a1) k
  obtain ⟨T2, X2, e2, st2⟩ := initO X0 hx hZ hown (hw _ (List.mem_of_getElem? (i := 23) rfl)) (hw _ (List.mem_of_getElem? (i := 24) rfl)) (hw _ (List.mem_of_getElem? (i := 25) rfl)) e0 (g := (mkF m 1 #[.val (.ref a1)] [(.ref a1)])) rfl (by rw [hml]; rfl) rfl (hb hby d3_1) (by decide) (W := 0) (by show 2 * 0 + _ ≤ _; exact Nat.le_of_eq rfl) (by decide)
  obtain ⟨fs, hr, hrun, hended, hW, hsame⟩ := X2.leave (v := none) (fun _ => rfl)
  refine ⟨_, _, pre0 _ ?_, hrun, hended, _, _, rfl, ?_, ⟨_, rfl⟩, hW, hsame.mono (by decide) (by decide)⟩
  · show Steps p.tables e below (s₁.setTop (mkF m 0 #[.val (.ref a1)] [])) _
    refine XS.aloadN X0.here hx rfl (hb hby d3_0) rfl rfl ?_
    show Steps p.tables e below (s₁.setTop (mkF m 1 #[.val (.ref a1)] [(.ref a1)])) _
    refine st2 _ ?_
    show Steps p.tables e below (T2.setTop (mkF m 4 #[.val (.ref a1)] [])) _
    exact X2.returnOut hx Bd.returns (hb hby d3_4) hr
  · show QV none h0 n0 _ T2.heap _
    rw [e2]
    exact ⟨rfl, N0, rfl⟩
theorem d2_0 : decode prog_33_method_4_code 0 = .ok (.aload_n 0, 1) := by decide +kernel
theorem d2_1 : decode prog_33_method_4_code 1 = .ok (.invokespecial 1, 3) := by decide +kernel
theorem d2_4 : decode prog_33_method_4_code 4 = .ok (.aload_n 0, 1) := by decide +kernel
theorem d2_5 : decode prog_33_method_4_code 5 = .ok (.iload_n 1, 1) := by decide +kernel
theorem d2_6 : decode prog_33_method_4_code 6 = .ok (.putfield 7, 3) := by decide +kernel
theorem d2_9 : decode prog_33_method_4_code 9 = .ok (.aload_n 0, 1) := by decide +kernel
theorem d2_10 : decode prog_33_method_4_code 10 = .ok (.aload_n 2, 1) := by decide +kernel
theorem d2_11 : decode prog_33_method_4_code 11 = .ok (.putfield 13, 3) := by decide +kernel
theorem d2_14 : decode prog_33_method_4_code 14 = .ok (.aload_n 0, 1) := by decide +kernel
theorem d2_15 : decode prog_33_method_4_code 15 = .ok (.aload_n 3, 1) := by decide +kernel
theorem d2_16 : decode prog_33_method_4_code 16 = .ok (.putfield 17, 3) := by decide +kernel
theorem d2_19 : decode prog_33_method_4_code 19 = .ok (.aload_n 0, 1) := by decide +kernel
theorem d2_20 : decode prog_33_method_4_code 20 = .ok (.aload 4, 2) := by decide +kernel
theorem d2_22 : decode prog_33_method_4_code 22 = .ok (.putfield 21, 3) := by decide +kernel
theorem d2_25 : decode prog_33_method_4_code 25 = .ok (.aload_n 0, 1) := by decide +kernel
theorem d2_26 : decode prog_33_method_4_code 26 = .ok (.aload 5, 2) := by decide +kernel
theorem d2_28 : decode prog_33_method_4_code 28 = .ok (.putfield 24, 3) := by decide +kernel
theorem d2_31 : decode prog_33_method_4_code 31 = .ok (.return_, 1) := by decide +kernel
theorem pn_2 : plainName "com/example/cell5/cell5/http/Reply" = true := by first | (simp [plainName, overriddenIn]; done) | decide +kernel
theorem pd_2_2 : parseMethodDescriptor "()V" = some ⟨[], none⟩ := by decide +kernel
theorem ef_2 (m : MethodId) (x0 : Addr) (x1 : Int32) (x2 : Addr) (x3 : Addr) (x4 : Addr) (x5 : Addr) : entryFrame m #[(.ref x0), (.int x1), (.ref x2), (.ref x3), (.ref x4), (.ref x5)] 6 = mkF m 0 #[.val (.ref x0), .val (.int x1), .val (.ref x2), .val (.ref x3), .val (.ref x4), .val (.ref x5)] [] := by first | (simp [entryFrame, mkF, argsToLocals, Value.category]; done) | rfl
set_option maxRecDepth 65536 in
set_option maxHeartbeats 40000000 in
theorem rm2_o (l : Launch) (Z : State) (a0 : Array Value) (hw : ∀ d ∈ tables_1, d.before a0 Z = true) (ws : List Jvm.Cond) (a1 : Addr) (p2 : Int32) (a3 : Addr) (a4 : Addr) (a5 : Addr) (a6 : Addr) (u_status_a1 : Value) (u_body_a1 : Value) (u_location_a1 : Value) (u_type_a1 : Value) (u_streamed_a1 : Value) (h0 : Heap) (n0 : Nat) (Z0 : n0 ≤ h0.size) (E_a1 : Exa Z h0 a1 "com/example/cell5/cell5/http/Reply") (F_status_a1 : Fld Z h0 a1 "com/example/cell5/cell5/http/Reply" "status" "I" u_status_a1) (g_a1 : n0 ≤ a1) (F_body_a1 : Fld Z h0 a1 "com/example/cell5/cell5/http/Reply" "body" "[B" u_body_a1) (F_location_a1 : Fld Z h0 a1 "com/example/cell5/cell5/http/Reply" "location" "Ljava/lang/String;" u_location_a1) (F_type_a1 : Fld Z h0 a1 "com/example/cell5/cell5/http/Reply" "type" "Ljava/lang/String;" u_type_a1) (F_streamed_a1 : Fld Z h0 a1 "com/example/cell5/cell5/http/Reply" "streamed" "Lcom/example/cell5/cell5/http/Reply$Streamed;" u_streamed_a1) :
    MetFree l (⟨"com/example/cell5/cell5/http/Reply", "<init>", "(I[BLjava/lang/String;Ljava/lang/String;Lcom/example/cell5/cell5/http/Reply$Streamed;)V"⟩ : MethodName) (head1 (Jvm.Cond.code (⟨"com/example/cell5/cell5/http/Reply", "<init>", "(I[BLjava/lang/String;Ljava/lang/String;Lcom/example/cell5/cell5/http/Reply$Streamed;)V"⟩ : MethodName) prog_33_method_4_code 6 none :: ws) ({ frames := 2, cells := 0, slots := 0, locals := 24 } : Room)) (fun a U => a = #[(.ref a1), (.int p2), (.ref a3), (.ref a4), (.ref a5), (.ref a6)] ∧ Z.Warmed39 U.vm ∧ U.heap = h0) (fun _ _ _ _ _ => True) (fun _ U o U' => ∃ v L, o = .returned v ∧ QR Z a1 a3 (.ref a6) h0 n0 v U'.heap L ∧ FrameEnd U o U' L ({ frames := 2, cells := 0, slots := 0, locals := 24 } : Room).cells ({ frames := 2, cells := 0, slots := 0, locals := 24 } : Room).slots) := by
  refine MetFree.of_bodySF (plainFor_of_name pn_2) hisR ?_
  intro p e s m args below meth c s₁ Bd hml0 hP hK
  obtain ⟨rfl, hZ, hh⟩ := hP
  have hx := Bd.exec
  have hby := Bd.bytes
  have hml : c.maxLocals = 6 := hml0
  have hown : s.vm.findClass "com/example/cell5/cell5/http/Reply" = some m.cls := findClass_of_methodNamed Bd.named
  have hnm := (name_of_methodNamed Bd.named Bd.method).1
  have X0 : Stand p l e ({ frames := 2, cells := 0, slots := 0, locals := 24 } : Room) s m #[(.ref a1), (.int p2), (.ref a3), (.ref a4), (.ref a5), (.ref a6)] below meth c s₁ [] 0 0 := Stand.of_body Bd
  have e0 : s₁.heap = h0 := by rw [← hh, Bd.state]; rfl
  have N0 := Fr.nil n0
  have pre0 : ∀ t, Steps p.tables e below (s₁.setTop (mkF m 0 #[.val (.ref a1), .val (.int p2), .val (.ref a3), .val (.ref a4), .val (.ref a5), .val (.ref a6)] [])) t → Steps p.tables e below (s₁.setTop (entryFrame m #[(.ref a1), (.int p2), (.ref a3), (.ref a4), (.ref a5), (.ref a6)] 6)) t := fun t k => castTop (ef_2 m a1 p2 a3 a4 a5 a6) k
  obtain ⟨_, _, ⟨T7, L7, k7, n7⟩, -, X7, ⟨Lc7, hQ7, l7, y7, z7⟩, st7⟩ := X0.specialBack hx (y := (⟨"java/lang/Record", "<init>", "()V"⟩ : MethodName)) rfl hown (mvT hZ (hw _ (List.mem_of_getElem? (i := 18) rfl))) (mvT hZ (hw _ (List.mem_of_getElem? (i := 19) rfl))) (mvT hZ (hw _ (List.mem_of_getElem? (i := 22) rfl))) (by decide) (backOf (W := 0) (rm3 l Z a0 hw [] a1 h0 n0 Z0) hZ (hw _ (List.mem_of_getElem? (i := 22) rfl)) (hw _ (List.mem_of_getElem? (i := 21) rfl)) (by decide) (by decide)) (g := (mkF m 1 #[.val (.ref a1), .val (.int p2), .val (.ref a3), .val (.ref a4), .val (.ref a5), .val (.ref a6)] [(.ref a1)])) rfl (by rw [hml]; rfl) (Steps.refl _) (a := a1) (argsL := []) (rest := []) (lenOf pd_2_2 rfl) rfl (by show 2 * 0 + _ ≤ _; exact Nat.le_of_eq rfl) (hb hby d2_1) (fun _ _ => ⟨rfl, e0, (Nat.le_of_ble_eq_true rfl), (Nat.le_of_ble_eq_true rfl)⟩)
  dsimp only [Pt.U, Pt.locs, Pt.cells, Pt.slots] at X7 l7 y7 z7 st7 hQ7
  subst l7 y7 z7
  obtain ⟨rfl, N7q, h7q⟩ := hQ7
  have Kq7 : Keep h0 T7.heap [] := by rw [h7q]; exact Keep.refl _ _
  have Kc7 : Keep h0 T7.heap [a1] := by rw [h7q]; exact Keep.refl _ _
  have N7 := Fr.app N0 N7q
  obtain ⟨T8, h8, X8, e8, W8, st8⟩ := putF X7 hx hZ hown (host := "") (Or.inl (hw _ (List.mem_of_getElem? (i := 26) rfl))) Via.refl rfl (F_status_a1.keep Kq7 List.not_mem_nil) (E_a1.keep Kq7) (Or.inr ⟨(hw _ (List.mem_of_getElem? (i := 27) rfl)), rfl, hnm⟩) (hw _ (List.mem_of_getElem? (i := 10) rfl)) (ty := .int) (by decide) rfl rfl (g := (mkF m 6 #[.val (.ref a1), .val (.int p2), .val (.ref a3), .val (.ref a4), .val (.ref a5), .val (.ref a6)] [(.int p2), (.ref a1)])) rfl rfl (hb hby d2_6)
  have Fw8 := (F_status_a1.keep Kq7 List.not_mem_nil).same W8
  have K8 : Keep h0 h8 [a1] := Kc7.wr W8 (Or.inl (List.mem_of_getElem? (i := 0) rfl))
  have N8 := Fr.snoc X8 N7 g_a1
  obtain ⟨T9, h9, X9, e9, W9, st9⟩ := putF X8 hx hZ hown (host := "") (Or.inl (hw _ (List.mem_of_getElem? (i := 28) rfl))) Via.refl e8 ((F_body_a1.keep Kq7 List.not_mem_nil).other W8 (Or.inr (slot_ne (Or.inr (hw _ (List.mem_of_getElem? (i := 29) rfl))) (Or.inr (hw _ (List.mem_of_getElem? (i := 27) rfl))) (by decide) (t := (.array .byte)) (t' := .int) (by decide) (by decide)))) ((E_a1.keep Kq7).wr W8) (Or.inr ⟨(hw _ (List.mem_of_getElem? (i := 29) rfl)), rfl, hnm⟩) (hw _ (List.mem_of_getElem? (i := 10) rfl)) (ty := (.array .byte)) (by decide) rfl rfl (g := (mkF m 11 #[.val (.ref a1), .val (.int p2), .val (.ref a3), .val (.ref a4), .val (.ref a5), .val (.ref a6)] [(.ref a3), (.ref a1)])) rfl rfl (hb hby d2_11)
  have Fw9 := ((F_body_a1.keep Kq7 List.not_mem_nil).other W8 (Or.inr (slot_ne (Or.inr (hw _ (List.mem_of_getElem? (i := 29) rfl))) (Or.inr (hw _ (List.mem_of_getElem? (i := 27) rfl))) (by decide) (t := (.array .byte)) (t' := .int) (by decide) (by decide)))).same W9
  have K9 : Keep h0 h9 [a1] := K8.wr W9 (Or.inl (List.mem_of_getElem? (i := 0) rfl))
  have N9 := Fr.snoc X9 N8 g_a1
  obtain ⟨T10, h10, X10, e10, W10, st10⟩ := putF X9 hx hZ hown (host := "") (Or.inl (hw _ (List.mem_of_getElem? (i := 30) rfl))) Via.refl e9 (((F_location_a1.keep Kq7 List.not_mem_nil).other W8 (Or.inr (slot_ne (Or.inr (hw _ (List.mem_of_getElem? (i := 31) rfl))) (Or.inr (hw _ (List.mem_of_getElem? (i := 27) rfl))) (by decide) (t := (.object "java/lang/String")) (t' := .int) (by decide) (by decide)))).other W9 (Or.inr (slot_ne (Or.inr (hw _ (List.mem_of_getElem? (i := 31) rfl))) (Or.inr (hw _ (List.mem_of_getElem? (i := 29) rfl))) (by decide) (t := (.object "java/lang/String")) (t' := (.array .byte)) (by decide) (by decide)))) (((E_a1.keep Kq7).wr W8).wr W9) (Or.inr ⟨(hw _ (List.mem_of_getElem? (i := 31) rfl)), rfl, hnm⟩) (hw _ (List.mem_of_getElem? (i := 10) rfl)) (ty := (.object "java/lang/String")) (by decide) rfl rfl (g := (mkF m 16 #[.val (.ref a1), .val (.int p2), .val (.ref a3), .val (.ref a4), .val (.ref a5), .val (.ref a6)] [(.ref a4), (.ref a1)])) rfl rfl (hb hby d2_16)
  have Fw10 := (((F_location_a1.keep Kq7 List.not_mem_nil).other W8 (Or.inr (slot_ne (Or.inr (hw _ (List.mem_of_getElem? (i := 31) rfl))) (Or.inr (hw _ (List.mem_of_getElem? (i := 27) rfl))) (by decide) (t := (.object "java/lang/String")) (t' := .int) (by decide) (by decide)))).other W9 (Or.inr (slot_ne (Or.inr (hw _ (List.mem_of_getElem? (i := 31) rfl))) (Or.inr (hw _ (List.mem_of_getElem? (i := 29) rfl))) (by decide) (t := (.object "java/lang/String")) (t' := (.array .byte)) (by decide) (by decide)))).same W10
  have K10 : Keep h0 h10 [a1] := K9.wr W10 (Or.inl (List.mem_of_getElem? (i := 0) rfl))
  have N10 := Fr.snoc X10 N9 g_a1
  obtain ⟨T11, h11, X11, e11, W11, st11⟩ := putF X10 hx hZ hown (host := "") (Or.inl (hw _ (List.mem_of_getElem? (i := 32) rfl))) Via.refl e10 ((((F_type_a1.keep Kq7 List.not_mem_nil).other W8 (Or.inr (slot_ne (Or.inr (hw _ (List.mem_of_getElem? (i := 33) rfl))) (Or.inr (hw _ (List.mem_of_getElem? (i := 27) rfl))) (by decide) (t := (.object "java/lang/String")) (t' := .int) (by decide) (by decide)))).other W9 (Or.inr (slot_ne (Or.inr (hw _ (List.mem_of_getElem? (i := 33) rfl))) (Or.inr (hw _ (List.mem_of_getElem? (i := 29) rfl))) (by decide) (t := (.object "java/lang/String")) (t' := (.array .byte)) (by decide) (by decide)))).other W10 (Or.inr (slot_ne (Or.inr (hw _ (List.mem_of_getElem? (i := 33) rfl))) (Or.inr (hw _ (List.mem_of_getElem? (i := 31) rfl))) (by decide) (t := (.object "java/lang/String")) (t' := (.object "java/lang/String")) (by decide) (by decide)))) ((((E_a1.keep Kq7).wr W8).wr W9).wr W10) (Or.inr ⟨(hw _ (List.mem_of_getElem? (i := 33) rfl)), rfl, hnm⟩) (hw _ (List.mem_of_getElem? (i := 10) rfl)) (ty := (.object "java/lang/String")) (by decide) rfl rfl (g := (mkF m 22 #[.val (.ref a1), .val (.int p2), .val (.ref a3), .val (.ref a4), .val (.ref a5), .val (.ref a6)] [(.ref a5), (.ref a1)])) rfl rfl (hb hby d2_22)
  have Fw11 := ((((F_type_a1.keep Kq7 List.not_mem_nil).other W8 (Or.inr (slot_ne (Or.inr (hw _ (List.mem_of_getElem? (i := 33) rfl))) (Or.inr (hw _ (List.mem_of_getElem? (i := 27) rfl))) (by decide) (t := (.object "java/lang/String")) (t' := .int) (by decide) (by decide)))).other W9 (Or.inr (slot_ne (Or.inr (hw _ (List.mem_of_getElem? (i := 33) rfl))) (Or.inr (hw _ (List.mem_of_getElem? (i := 29) rfl))) (by decide) (t := (.object "java/lang/String")) (t' := (.array .byte)) (by decide) (by decide)))).other W10 (Or.inr (slot_ne (Or.inr (hw _ (List.mem_of_getElem? (i := 33) rfl))) (Or.inr (hw _ (List.mem_of_getElem? (i := 31) rfl))) (by decide) (t := (.object "java/lang/String")) (t' := (.object "java/lang/String")) (by decide) (by decide)))).same W11
  have K11 : Keep h0 h11 [a1] := K10.wr W11 (Or.inl (List.mem_of_getElem? (i := 0) rfl))
  have N11 := Fr.snoc X11 N10 g_a1
  obtain ⟨T12, h12, X12, e12, W12, st12⟩ := putF X11 hx hZ hown (host := "") (Or.inl (hw _ (List.mem_of_getElem? (i := 34) rfl))) Via.refl e11 (((((F_streamed_a1.keep Kq7 List.not_mem_nil).other W8 (Or.inr (slot_ne (Or.inr (hw _ (List.mem_of_getElem? (i := 35) rfl))) (Or.inr (hw _ (List.mem_of_getElem? (i := 27) rfl))) (by decide) (t := (.object "com/example/cell5/cell5/http/Reply$Streamed")) (t' := .int) (by decide) (by decide)))).other W9 (Or.inr (slot_ne (Or.inr (hw _ (List.mem_of_getElem? (i := 35) rfl))) (Or.inr (hw _ (List.mem_of_getElem? (i := 29) rfl))) (by decide) (t := (.object "com/example/cell5/cell5/http/Reply$Streamed")) (t' := (.array .byte)) (by decide) (by decide)))).other W10 (Or.inr (slot_ne (Or.inr (hw _ (List.mem_of_getElem? (i := 35) rfl))) (Or.inr (hw _ (List.mem_of_getElem? (i := 31) rfl))) (by decide) (t := (.object "com/example/cell5/cell5/http/Reply$Streamed")) (t' := (.object "java/lang/String")) (by decide) (by decide)))).other W11 (Or.inr (slot_ne (Or.inr (hw _ (List.mem_of_getElem? (i := 35) rfl))) (Or.inr (hw _ (List.mem_of_getElem? (i := 33) rfl))) (by decide) (t := (.object "com/example/cell5/cell5/http/Reply$Streamed")) (t' := (.object "java/lang/String")) (by decide) (by decide)))) (((((E_a1.keep Kq7).wr W8).wr W9).wr W10).wr W11) (Or.inr ⟨(hw _ (List.mem_of_getElem? (i := 35) rfl)), rfl, hnm⟩) (hw _ (List.mem_of_getElem? (i := 10) rfl)) (ty := (.object "com/example/cell5/cell5/http/Reply$Streamed")) (by decide) rfl rfl (g := (mkF m 28 #[.val (.ref a1), .val (.int p2), .val (.ref a3), .val (.ref a4), .val (.ref a5), .val (.ref a6)] [(.ref a6), (.ref a1)])) rfl rfl (hb hby d2_28)
  have Fw12 := (((((F_streamed_a1.keep Kq7 List.not_mem_nil).other W8 (Or.inr (slot_ne (Or.inr (hw _ (List.mem_of_getElem? (i := 35) rfl))) (Or.inr (hw _ (List.mem_of_getElem? (i := 27) rfl))) (by decide) (t := (.object "com/example/cell5/cell5/http/Reply$Streamed")) (t' := .int) (by decide) (by decide)))).other W9 (Or.inr (slot_ne (Or.inr (hw _ (List.mem_of_getElem? (i := 35) rfl))) (Or.inr (hw _ (List.mem_of_getElem? (i := 29) rfl))) (by decide) (t := (.object "com/example/cell5/cell5/http/Reply$Streamed")) (t' := (.array .byte)) (by decide) (by decide)))).other W10 (Or.inr (slot_ne (Or.inr (hw _ (List.mem_of_getElem? (i := 35) rfl))) (Or.inr (hw _ (List.mem_of_getElem? (i := 31) rfl))) (by decide) (t := (.object "com/example/cell5/cell5/http/Reply$Streamed")) (t' := (.object "java/lang/String")) (by decide) (by decide)))).other W11 (Or.inr (slot_ne (Or.inr (hw _ (List.mem_of_getElem? (i := 35) rfl))) (Or.inr (hw _ (List.mem_of_getElem? (i := 33) rfl))) (by decide) (t := (.object "com/example/cell5/cell5/http/Reply$Streamed")) (t' := (.object "java/lang/String")) (by decide) (by decide)))).same W12
  have K12 : Keep h0 h12 [a1] := K11.wr W12 (Or.inl (List.mem_of_getElem? (i := 0) rfl))
  have N12 := Fr.snoc X12 N11 g_a1
  obtain ⟨fs, hr, hrun, hended, hW, hsame⟩ := X12.leave (v := none) (fun _ => rfl)
  refine ⟨_, _, pre0 _ ?_, hrun, hended, _, _, rfl, ?_, ⟨_, rfl⟩, hW, hsame.mono (by decide) (by decide)⟩
  · show Steps p.tables e below (s₁.setTop (mkF m 0 #[.val (.ref a1), .val (.int p2), .val (.ref a3), .val (.ref a4), .val (.ref a5), .val (.ref a6)] [])) _
    refine XS.aloadN X0.here hx rfl (hb hby d2_0) rfl rfl ?_
    show Steps p.tables e below (s₁.setTop (mkF m 1 #[.val (.ref a1), .val (.int p2), .val (.ref a3), .val (.ref a4), .val (.ref a5), .val (.ref a6)] [(.ref a1)])) _
    refine st7.trans ?_
    show Steps p.tables e below (T7.setTop (mkF m 4 #[.val (.ref a1), .val (.int p2), .val (.ref a3), .val (.ref a4), .val (.ref a5), .val (.ref a6)] [])) _
    refine XS.aloadN X7.here hx rfl (hb hby d2_4) rfl rfl ?_
    show Steps p.tables e below (T7.setTop (mkF m 5 #[.val (.ref a1), .val (.int p2), .val (.ref a3), .val (.ref a4), .val (.ref a5), .val (.ref a6)] [(.ref a1)])) _
    refine XS.iloadN X7.here hx rfl (hb hby d2_5) rfl ?_
    show Steps p.tables e below (T7.setTop (mkF m 6 #[.val (.ref a1), .val (.int p2), .val (.ref a3), .val (.ref a4), .val (.ref a5), .val (.ref a6)] [(.int p2), (.ref a1)])) _
    refine st8 _ ?_
    show Steps p.tables e below (T8.setTop (mkF m 9 #[.val (.ref a1), .val (.int p2), .val (.ref a3), .val (.ref a4), .val (.ref a5), .val (.ref a6)] [])) _
    refine XS.aloadN X8.here hx rfl (hb hby d2_9) rfl rfl ?_
    show Steps p.tables e below (T8.setTop (mkF m 10 #[.val (.ref a1), .val (.int p2), .val (.ref a3), .val (.ref a4), .val (.ref a5), .val (.ref a6)] [(.ref a1)])) _
    refine XS.aloadN X8.here hx rfl (hb hby d2_10) rfl rfl ?_
    show Steps p.tables e below (T8.setTop (mkF m 11 #[.val (.ref a1), .val (.int p2), .val (.ref a3), .val (.ref a4), .val (.ref a5), .val (.ref a6)] [(.ref a3), (.ref a1)])) _
    refine st9 _ ?_
    show Steps p.tables e below (T9.setTop (mkF m 14 #[.val (.ref a1), .val (.int p2), .val (.ref a3), .val (.ref a4), .val (.ref a5), .val (.ref a6)] [])) _
    refine XS.aloadN X9.here hx rfl (hb hby d2_14) rfl rfl ?_
    show Steps p.tables e below (T9.setTop (mkF m 15 #[.val (.ref a1), .val (.int p2), .val (.ref a3), .val (.ref a4), .val (.ref a5), .val (.ref a6)] [(.ref a1)])) _
    refine XS.aloadN X9.here hx rfl (hb hby d2_15) rfl rfl ?_
    show Steps p.tables e below (T9.setTop (mkF m 16 #[.val (.ref a1), .val (.int p2), .val (.ref a3), .val (.ref a4), .val (.ref a5), .val (.ref a6)] [(.ref a4), (.ref a1)])) _
    refine st10 _ ?_
    show Steps p.tables e below (T10.setTop (mkF m 19 #[.val (.ref a1), .val (.int p2), .val (.ref a3), .val (.ref a4), .val (.ref a5), .val (.ref a6)] [])) _
    refine XS.aloadN X10.here hx rfl (hb hby d2_19) rfl rfl ?_
    show Steps p.tables e below (T10.setTop (mkF m 20 #[.val (.ref a1), .val (.int p2), .val (.ref a3), .val (.ref a4), .val (.ref a5), .val (.ref a6)] [(.ref a1)])) _
    refine XS.aload X10.here hx rfl (hb hby d2_20) rfl rfl ?_
    show Steps p.tables e below (T10.setTop (mkF m 22 #[.val (.ref a1), .val (.int p2), .val (.ref a3), .val (.ref a4), .val (.ref a5), .val (.ref a6)] [(.ref a5), (.ref a1)])) _
    refine st11 _ ?_
    show Steps p.tables e below (T11.setTop (mkF m 25 #[.val (.ref a1), .val (.int p2), .val (.ref a3), .val (.ref a4), .val (.ref a5), .val (.ref a6)] [])) _
    refine XS.aloadN X11.here hx rfl (hb hby d2_25) rfl rfl ?_
    show Steps p.tables e below (T11.setTop (mkF m 26 #[.val (.ref a1), .val (.int p2), .val (.ref a3), .val (.ref a4), .val (.ref a5), .val (.ref a6)] [(.ref a1)])) _
    refine XS.aload X11.here hx rfl (hb hby d2_26) rfl rfl ?_
    show Steps p.tables e below (T11.setTop (mkF m 28 #[.val (.ref a1), .val (.int p2), .val (.ref a3), .val (.ref a4), .val (.ref a5), .val (.ref a6)] [(.ref a6), (.ref a1)])) _
    refine st12 _ ?_
    show Steps p.tables e below (T12.setTop (mkF m 31 #[.val (.ref a1), .val (.int p2), .val (.ref a3), .val (.ref a4), .val (.ref a5), .val (.ref a6)] [])) _
    exact X12.returnOut hx Bd.returns (hb hby d2_31) hr
  · show QR Z a1 a3 (.ref a6) h0 n0 _ T12.heap _
    rw [e12]
    exact ⟨rfl, N12, K12, ((((((E_a1.keep Kq7).wr W8).wr W9).wr W10).wr W11).wr W12), (((Fw9.other W10 (Or.inr (slot_ne (Or.inr (hw _ (List.mem_of_getElem? (i := 29) rfl))) (Or.inr (hw _ (List.mem_of_getElem? (i := 31) rfl))) (by decide) (t := (.array .byte)) (t' := (.object "java/lang/String")) (by decide) (by decide)))).other W11 (Or.inr (slot_ne (Or.inr (hw _ (List.mem_of_getElem? (i := 29) rfl))) (Or.inr (hw _ (List.mem_of_getElem? (i := 33) rfl))) (by decide) (t := (.array .byte)) (t' := (.object "java/lang/String")) (by decide) (by decide)))).other W12 (Or.inr (slot_ne (Or.inr (hw _ (List.mem_of_getElem? (i := 29) rfl))) (Or.inr (hw _ (List.mem_of_getElem? (i := 35) rfl))) (by decide) (t := (.array .byte)) (t' := (.object "com/example/cell5/cell5/http/Reply$Streamed")) (by decide) (by decide)))), Fw12⟩
theorem ef_2_3 (m : MethodId) (x0 : Addr) (x1 : Int32) (x2 : Addr) (x4 : Addr) (x5 : Addr) : entryFrame m #[(.ref x0), (.int x1), (.ref x2), .null, (.ref x4), (.ref x5)] 6 = mkF m 0 #[.val (.ref x0), .val (.int x1), .val (.ref x2), .val .null, .val (.ref x4), .val (.ref x5)] [] := by first | (simp [entryFrame, mkF, argsToLocals, Value.category]; done) | rfl
set_option maxRecDepth 65536 in
set_option maxHeartbeats 40000000 in
theorem rm2_3 (l : Launch) (Z : State) (a0 : Array Value) (hw : ∀ d ∈ tables_1, d.before a0 Z = true) (ws : List Jvm.Cond) (a1 : Addr) (p2 : Int32) (a3 : Addr) (a4 : Addr) (a5 : Addr) (u_status_a1 : Value) (u_body_a1 : Value) (u_location_a1 : Value) (u_type_a1 : Value) (u_streamed_a1 : Value) (h0 : Heap) (n0 : Nat) (Z0 : n0 ≤ h0.size) (E_a1 : Exa Z h0 a1 "com/example/cell5/cell5/http/Reply") (F_status_a1 : Fld Z h0 a1 "com/example/cell5/cell5/http/Reply" "status" "I" u_status_a1) (g_a1 : n0 ≤ a1) (F_body_a1 : Fld Z h0 a1 "com/example/cell5/cell5/http/Reply" "body" "[B" u_body_a1) (F_location_a1 : Fld Z h0 a1 "com/example/cell5/cell5/http/Reply" "location" "Ljava/lang/String;" u_location_a1) (F_type_a1 : Fld Z h0 a1 "com/example/cell5/cell5/http/Reply" "type" "Ljava/lang/String;" u_type_a1) (F_streamed_a1 : Fld Z h0 a1 "com/example/cell5/cell5/http/Reply" "streamed" "Lcom/example/cell5/cell5/http/Reply$Streamed;" u_streamed_a1) :
    MetFree l (⟨"com/example/cell5/cell5/http/Reply", "<init>", "(I[BLjava/lang/String;Ljava/lang/String;Lcom/example/cell5/cell5/http/Reply$Streamed;)V"⟩ : MethodName) (head1 (Jvm.Cond.code (⟨"com/example/cell5/cell5/http/Reply", "<init>", "(I[BLjava/lang/String;Ljava/lang/String;Lcom/example/cell5/cell5/http/Reply$Streamed;)V"⟩ : MethodName) prog_33_method_4_code 6 none :: ws) ({ frames := 2, cells := 0, slots := 0, locals := 24 } : Room)) (fun a U => a = #[(.ref a1), (.int p2), (.ref a3), .null, (.ref a4), (.ref a5)] ∧ Z.Warmed39 U.vm ∧ U.heap = h0) (fun _ _ _ _ _ => True) (fun _ U o U' => ∃ v L, o = .returned v ∧ QR Z a1 a3 (.ref a5) h0 n0 v U'.heap L ∧ FrameEnd U o U' L ({ frames := 2, cells := 0, slots := 0, locals := 24 } : Room).cells ({ frames := 2, cells := 0, slots := 0, locals := 24 } : Room).slots) := by
  refine MetFree.of_bodySF (plainFor_of_name pn_2) hisR ?_
  intro p e s m args below meth c s₁ Bd hml0 hP hK
  obtain ⟨rfl, hZ, hh⟩ := hP
  have hx := Bd.exec
  have hby := Bd.bytes
  have hml : c.maxLocals = 6 := hml0
  have hown : s.vm.findClass "com/example/cell5/cell5/http/Reply" = some m.cls := findClass_of_methodNamed Bd.named
  have hnm := (name_of_methodNamed Bd.named Bd.method).1
  have X0 : Stand p l e ({ frames := 2, cells := 0, slots := 0, locals := 24 } : Room) s m #[(.ref a1), (.int p2), (.ref a3), .null, (.ref a4), (.ref a5)] below meth c s₁ [] 0 0 := Stand.of_body Bd
  have e0 : s₁.heap = h0 := by rw [← hh, Bd.state]; rfl
  have N0 := Fr.nil n0
  have pre0 : ∀ t, Steps p.tables e below (s₁.setTop (mkF m 0 #[.val (.ref a1), .val (.int p2), .val (.ref a3), .val .null, .val (.ref a4), .val (.ref a5)] [])) t → Steps p.tables e below (s₁.setTop (entryFrame m #[(.ref a1), (.int p2), (.ref a3), .null, (.ref a4), (.ref a5)] 6)) t := fun t k => castTop (ef_2_3 m a1 p2 a3 a4 a5) k
  obtain ⟨_, _, ⟨T6, L6, k6, n6⟩, -, X6, ⟨Lc6, hQ6, l6, y6, z6⟩, st6⟩ := X0.specialBack hx (y := (⟨"java/lang/Record", "<init>", "()V"⟩ : MethodName)) rfl hown (mvT hZ (hw _ (List.mem_of_getElem? (i := 18) rfl))) (mvT hZ (hw _ (List.mem_of_getElem? (i := 19) rfl))) (mvT hZ (hw _ (List.mem_of_getElem? (i := 22) rfl))) (by decide) (backOf (W := 0) (rm3 l Z a0 hw [] a1 h0 n0 Z0) hZ (hw _ (List.mem_of_getElem? (i := 22) rfl)) (hw _ (List.mem_of_getElem? (i := 21) rfl)) (by decide) (by decide)) (g := (mkF m 1 #[.val (.ref a1), .val (.int p2), .val (.ref a3), .val .null, .val (.ref a4), .val (.ref a5)] [(.ref a1)])) rfl (by rw [hml]; rfl) (Steps.refl _) (a := a1) (argsL := []) (rest := []) (lenOf pd_2_2 rfl) rfl (by show 2 * 0 + _ ≤ _; exact Nat.le_of_eq rfl) (hb hby d2_1) (fun _ _ => ⟨rfl, e0, (Nat.le_of_ble_eq_true rfl), (Nat.le_of_ble_eq_true rfl)⟩)
  dsimp only [Pt.U, Pt.locs, Pt.cells, Pt.slots] at X6 l6 y6 z6 st6 hQ6
  subst l6 y6 z6
  obtain ⟨rfl, N6q, h6q⟩ := hQ6
  have Kq6 : Keep h0 T6.heap [] := by rw [h6q]; exact Keep.refl _ _
  have Kc6 : Keep h0 T6.heap [a1] := by rw [h6q]; exact Keep.refl _ _
  have N6 := Fr.app N0 N6q
  obtain ⟨T7, h7, X7, e7, W7, st7⟩ := putF X6 hx hZ hown (host := "") (Or.inl (hw _ (List.mem_of_getElem? (i := 26) rfl))) Via.refl rfl (F_status_a1.keep Kq6 List.not_mem_nil) (E_a1.keep Kq6) (Or.inr ⟨(hw _ (List.mem_of_getElem? (i := 27) rfl)), rfl, hnm⟩) (hw _ (List.mem_of_getElem? (i := 10) rfl)) (ty := .int) (by decide) rfl rfl (g := (mkF m 6 #[.val (.ref a1), .val (.int p2), .val (.ref a3), .val .null, .val (.ref a4), .val (.ref a5)] [(.int p2), (.ref a1)])) rfl rfl (hb hby d2_6)
  have Fw7 := (F_status_a1.keep Kq6 List.not_mem_nil).same W7
  have K7 : Keep h0 h7 [a1] := Kc6.wr W7 (Or.inl (List.mem_of_getElem? (i := 0) rfl))
  have N7 := Fr.snoc X7 N6 g_a1
  obtain ⟨T8, h8, X8, e8, W8, st8⟩ := putF X7 hx hZ hown (host := "") (Or.inl (hw _ (List.mem_of_getElem? (i := 28) rfl))) Via.refl e7 ((F_body_a1.keep Kq6 List.not_mem_nil).other W7 (Or.inr (slot_ne (Or.inr (hw _ (List.mem_of_getElem? (i := 29) rfl))) (Or.inr (hw _ (List.mem_of_getElem? (i := 27) rfl))) (by decide) (t := (.array .byte)) (t' := .int) (by decide) (by decide)))) ((E_a1.keep Kq6).wr W7) (Or.inr ⟨(hw _ (List.mem_of_getElem? (i := 29) rfl)), rfl, hnm⟩) (hw _ (List.mem_of_getElem? (i := 10) rfl)) (ty := (.array .byte)) (by decide) rfl rfl (g := (mkF m 11 #[.val (.ref a1), .val (.int p2), .val (.ref a3), .val .null, .val (.ref a4), .val (.ref a5)] [(.ref a3), (.ref a1)])) rfl rfl (hb hby d2_11)
  have Fw8 := ((F_body_a1.keep Kq6 List.not_mem_nil).other W7 (Or.inr (slot_ne (Or.inr (hw _ (List.mem_of_getElem? (i := 29) rfl))) (Or.inr (hw _ (List.mem_of_getElem? (i := 27) rfl))) (by decide) (t := (.array .byte)) (t' := .int) (by decide) (by decide)))).same W8
  have K8 : Keep h0 h8 [a1] := K7.wr W8 (Or.inl (List.mem_of_getElem? (i := 0) rfl))
  have N8 := Fr.snoc X8 N7 g_a1
  obtain ⟨T9, h9, X9, e9, W9, st9⟩ := putF X8 hx hZ hown (host := "") (Or.inl (hw _ (List.mem_of_getElem? (i := 30) rfl))) Via.refl e8 (((F_location_a1.keep Kq6 List.not_mem_nil).other W7 (Or.inr (slot_ne (Or.inr (hw _ (List.mem_of_getElem? (i := 31) rfl))) (Or.inr (hw _ (List.mem_of_getElem? (i := 27) rfl))) (by decide) (t := (.object "java/lang/String")) (t' := .int) (by decide) (by decide)))).other W8 (Or.inr (slot_ne (Or.inr (hw _ (List.mem_of_getElem? (i := 31) rfl))) (Or.inr (hw _ (List.mem_of_getElem? (i := 29) rfl))) (by decide) (t := (.object "java/lang/String")) (t' := (.array .byte)) (by decide) (by decide)))) (((E_a1.keep Kq6).wr W7).wr W8) (Or.inr ⟨(hw _ (List.mem_of_getElem? (i := 31) rfl)), rfl, hnm⟩) (hw _ (List.mem_of_getElem? (i := 10) rfl)) (ty := (.object "java/lang/String")) (by decide) rfl rfl (g := (mkF m 16 #[.val (.ref a1), .val (.int p2), .val (.ref a3), .val .null, .val (.ref a4), .val (.ref a5)] [.null, (.ref a1)])) rfl rfl (hb hby d2_16)
  have Fw9 := (((F_location_a1.keep Kq6 List.not_mem_nil).other W7 (Or.inr (slot_ne (Or.inr (hw _ (List.mem_of_getElem? (i := 31) rfl))) (Or.inr (hw _ (List.mem_of_getElem? (i := 27) rfl))) (by decide) (t := (.object "java/lang/String")) (t' := .int) (by decide) (by decide)))).other W8 (Or.inr (slot_ne (Or.inr (hw _ (List.mem_of_getElem? (i := 31) rfl))) (Or.inr (hw _ (List.mem_of_getElem? (i := 29) rfl))) (by decide) (t := (.object "java/lang/String")) (t' := (.array .byte)) (by decide) (by decide)))).same W9
  have K9 : Keep h0 h9 [a1] := K8.wr W9 (Or.inl (List.mem_of_getElem? (i := 0) rfl))
  have N9 := Fr.snoc X9 N8 g_a1
  obtain ⟨T10, h10, X10, e10, W10, st10⟩ := putF X9 hx hZ hown (host := "") (Or.inl (hw _ (List.mem_of_getElem? (i := 32) rfl))) Via.refl e9 ((((F_type_a1.keep Kq6 List.not_mem_nil).other W7 (Or.inr (slot_ne (Or.inr (hw _ (List.mem_of_getElem? (i := 33) rfl))) (Or.inr (hw _ (List.mem_of_getElem? (i := 27) rfl))) (by decide) (t := (.object "java/lang/String")) (t' := .int) (by decide) (by decide)))).other W8 (Or.inr (slot_ne (Or.inr (hw _ (List.mem_of_getElem? (i := 33) rfl))) (Or.inr (hw _ (List.mem_of_getElem? (i := 29) rfl))) (by decide) (t := (.object "java/lang/String")) (t' := (.array .byte)) (by decide) (by decide)))).other W9 (Or.inr (slot_ne (Or.inr (hw _ (List.mem_of_getElem? (i := 33) rfl))) (Or.inr (hw _ (List.mem_of_getElem? (i := 31) rfl))) (by decide) (t := (.object "java/lang/String")) (t' := (.object "java/lang/String")) (by decide) (by decide)))) ((((E_a1.keep Kq6).wr W7).wr W8).wr W9) (Or.inr ⟨(hw _ (List.mem_of_getElem? (i := 33) rfl)), rfl, hnm⟩) (hw _ (List.mem_of_getElem? (i := 10) rfl)) (ty := (.object "java/lang/String")) (by decide) rfl rfl (g := (mkF m 22 #[.val (.ref a1), .val (.int p2), .val (.ref a3), .val .null, .val (.ref a4), .val (.ref a5)] [(.ref a4), (.ref a1)])) rfl rfl (hb hby d2_22)
  have Fw10 := ((((F_type_a1.keep Kq6 List.not_mem_nil).other W7 (Or.inr (slot_ne (Or.inr (hw _ (List.mem_of_getElem? (i := 33) rfl))) (Or.inr (hw _ (List.mem_of_getElem? (i := 27) rfl))) (by decide) (t := (.object "java/lang/String")) (t' := .int) (by decide) (by decide)))).other W8 (Or.inr (slot_ne (Or.inr (hw _ (List.mem_of_getElem? (i := 33) rfl))) (Or.inr (hw _ (List.mem_of_getElem? (i := 29) rfl))) (by decide) (t := (.object "java/lang/String")) (t' := (.array .byte)) (by decide) (by decide)))).other W9 (Or.inr (slot_ne (Or.inr (hw _ (List.mem_of_getElem? (i := 33) rfl))) (Or.inr (hw _ (List.mem_of_getElem? (i := 31) rfl))) (by decide) (t := (.object "java/lang/String")) (t' := (.object "java/lang/String")) (by decide) (by decide)))).same W10
  have K10 : Keep h0 h10 [a1] := K9.wr W10 (Or.inl (List.mem_of_getElem? (i := 0) rfl))
  have N10 := Fr.snoc X10 N9 g_a1
  obtain ⟨T11, h11, X11, e11, W11, st11⟩ := putF X10 hx hZ hown (host := "") (Or.inl (hw _ (List.mem_of_getElem? (i := 34) rfl))) Via.refl e10 (((((F_streamed_a1.keep Kq6 List.not_mem_nil).other W7 (Or.inr (slot_ne (Or.inr (hw _ (List.mem_of_getElem? (i := 35) rfl))) (Or.inr (hw _ (List.mem_of_getElem? (i := 27) rfl))) (by decide) (t := (.object "com/example/cell5/cell5/http/Reply$Streamed")) (t' := .int) (by decide) (by decide)))).other W8 (Or.inr (slot_ne (Or.inr (hw _ (List.mem_of_getElem? (i := 35) rfl))) (Or.inr (hw _ (List.mem_of_getElem? (i := 29) rfl))) (by decide) (t := (.object "com/example/cell5/cell5/http/Reply$Streamed")) (t' := (.array .byte)) (by decide) (by decide)))).other W9 (Or.inr (slot_ne (Or.inr (hw _ (List.mem_of_getElem? (i := 35) rfl))) (Or.inr (hw _ (List.mem_of_getElem? (i := 31) rfl))) (by decide) (t := (.object "com/example/cell5/cell5/http/Reply$Streamed")) (t' := (.object "java/lang/String")) (by decide) (by decide)))).other W10 (Or.inr (slot_ne (Or.inr (hw _ (List.mem_of_getElem? (i := 35) rfl))) (Or.inr (hw _ (List.mem_of_getElem? (i := 33) rfl))) (by decide) (t := (.object "com/example/cell5/cell5/http/Reply$Streamed")) (t' := (.object "java/lang/String")) (by decide) (by decide)))) (((((E_a1.keep Kq6).wr W7).wr W8).wr W9).wr W10) (Or.inr ⟨(hw _ (List.mem_of_getElem? (i := 35) rfl)), rfl, hnm⟩) (hw _ (List.mem_of_getElem? (i := 10) rfl)) (ty := (.object "com/example/cell5/cell5/http/Reply$Streamed")) (by decide) rfl rfl (g := (mkF m 28 #[.val (.ref a1), .val (.int p2), .val (.ref a3), .val .null, .val (.ref a4), .val (.ref a5)] [(.ref a5), (.ref a1)])) rfl rfl (hb hby d2_28)
  have Fw11 := (((((F_streamed_a1.keep Kq6 List.not_mem_nil).other W7 (Or.inr (slot_ne (Or.inr (hw _ (List.mem_of_getElem? (i := 35) rfl))) (Or.inr (hw _ (List.mem_of_getElem? (i := 27) rfl))) (by decide) (t := (.object "com/example/cell5/cell5/http/Reply$Streamed")) (t' := .int) (by decide) (by decide)))).other W8 (Or.inr (slot_ne (Or.inr (hw _ (List.mem_of_getElem? (i := 35) rfl))) (Or.inr (hw _ (List.mem_of_getElem? (i := 29) rfl))) (by decide) (t := (.object "com/example/cell5/cell5/http/Reply$Streamed")) (t' := (.array .byte)) (by decide) (by decide)))).other W9 (Or.inr (slot_ne (Or.inr (hw _ (List.mem_of_getElem? (i := 35) rfl))) (Or.inr (hw _ (List.mem_of_getElem? (i := 31) rfl))) (by decide) (t := (.object "com/example/cell5/cell5/http/Reply$Streamed")) (t' := (.object "java/lang/String")) (by decide) (by decide)))).other W10 (Or.inr (slot_ne (Or.inr (hw _ (List.mem_of_getElem? (i := 35) rfl))) (Or.inr (hw _ (List.mem_of_getElem? (i := 33) rfl))) (by decide) (t := (.object "com/example/cell5/cell5/http/Reply$Streamed")) (t' := (.object "java/lang/String")) (by decide) (by decide)))).same W11
  have K11 : Keep h0 h11 [a1] := K10.wr W11 (Or.inl (List.mem_of_getElem? (i := 0) rfl))
  have N11 := Fr.snoc X11 N10 g_a1
  obtain ⟨fs, hr, hrun, hended, hW, hsame⟩ := X11.leave (v := none) (fun _ => rfl)
  refine ⟨_, _, pre0 _ ?_, hrun, hended, _, _, rfl, ?_, ⟨_, rfl⟩, hW, hsame.mono (by decide) (by decide)⟩
  · show Steps p.tables e below (s₁.setTop (mkF m 0 #[.val (.ref a1), .val (.int p2), .val (.ref a3), .val .null, .val (.ref a4), .val (.ref a5)] [])) _
    refine XS.aloadN X0.here hx rfl (hb hby d2_0) rfl rfl ?_
    show Steps p.tables e below (s₁.setTop (mkF m 1 #[.val (.ref a1), .val (.int p2), .val (.ref a3), .val .null, .val (.ref a4), .val (.ref a5)] [(.ref a1)])) _
    refine st6.trans ?_
    show Steps p.tables e below (T6.setTop (mkF m 4 #[.val (.ref a1), .val (.int p2), .val (.ref a3), .val .null, .val (.ref a4), .val (.ref a5)] [])) _
    refine XS.aloadN X6.here hx rfl (hb hby d2_4) rfl rfl ?_
    show Steps p.tables e below (T6.setTop (mkF m 5 #[.val (.ref a1), .val (.int p2), .val (.ref a3), .val .null, .val (.ref a4), .val (.ref a5)] [(.ref a1)])) _
    refine XS.iloadN X6.here hx rfl (hb hby d2_5) rfl ?_
    show Steps p.tables e below (T6.setTop (mkF m 6 #[.val (.ref a1), .val (.int p2), .val (.ref a3), .val .null, .val (.ref a4), .val (.ref a5)] [(.int p2), (.ref a1)])) _
    refine st7 _ ?_
    show Steps p.tables e below (T7.setTop (mkF m 9 #[.val (.ref a1), .val (.int p2), .val (.ref a3), .val .null, .val (.ref a4), .val (.ref a5)] [])) _
    refine XS.aloadN X7.here hx rfl (hb hby d2_9) rfl rfl ?_
    show Steps p.tables e below (T7.setTop (mkF m 10 #[.val (.ref a1), .val (.int p2), .val (.ref a3), .val .null, .val (.ref a4), .val (.ref a5)] [(.ref a1)])) _
    refine XS.aloadN X7.here hx rfl (hb hby d2_10) rfl rfl ?_
    show Steps p.tables e below (T7.setTop (mkF m 11 #[.val (.ref a1), .val (.int p2), .val (.ref a3), .val .null, .val (.ref a4), .val (.ref a5)] [(.ref a3), (.ref a1)])) _
    refine st8 _ ?_
    show Steps p.tables e below (T8.setTop (mkF m 14 #[.val (.ref a1), .val (.int p2), .val (.ref a3), .val .null, .val (.ref a4), .val (.ref a5)] [])) _
    refine XS.aloadN X8.here hx rfl (hb hby d2_14) rfl rfl ?_
    show Steps p.tables e below (T8.setTop (mkF m 15 #[.val (.ref a1), .val (.int p2), .val (.ref a3), .val .null, .val (.ref a4), .val (.ref a5)] [(.ref a1)])) _
    refine XS.aloadN X8.here hx rfl (hb hby d2_15) rfl rfl ?_
    show Steps p.tables e below (T8.setTop (mkF m 16 #[.val (.ref a1), .val (.int p2), .val (.ref a3), .val .null, .val (.ref a4), .val (.ref a5)] [.null, (.ref a1)])) _
    refine st9 _ ?_
    show Steps p.tables e below (T9.setTop (mkF m 19 #[.val (.ref a1), .val (.int p2), .val (.ref a3), .val .null, .val (.ref a4), .val (.ref a5)] [])) _
    refine XS.aloadN X9.here hx rfl (hb hby d2_19) rfl rfl ?_
    show Steps p.tables e below (T9.setTop (mkF m 20 #[.val (.ref a1), .val (.int p2), .val (.ref a3), .val .null, .val (.ref a4), .val (.ref a5)] [(.ref a1)])) _
    refine XS.aload X9.here hx rfl (hb hby d2_20) rfl rfl ?_
    show Steps p.tables e below (T9.setTop (mkF m 22 #[.val (.ref a1), .val (.int p2), .val (.ref a3), .val .null, .val (.ref a4), .val (.ref a5)] [(.ref a4), (.ref a1)])) _
    refine st10 _ ?_
    show Steps p.tables e below (T10.setTop (mkF m 25 #[.val (.ref a1), .val (.int p2), .val (.ref a3), .val .null, .val (.ref a4), .val (.ref a5)] [])) _
    refine XS.aloadN X10.here hx rfl (hb hby d2_25) rfl rfl ?_
    show Steps p.tables e below (T10.setTop (mkF m 26 #[.val (.ref a1), .val (.int p2), .val (.ref a3), .val .null, .val (.ref a4), .val (.ref a5)] [(.ref a1)])) _
    refine XS.aload X10.here hx rfl (hb hby d2_26) rfl rfl ?_
    show Steps p.tables e below (T10.setTop (mkF m 28 #[.val (.ref a1), .val (.int p2), .val (.ref a3), .val .null, .val (.ref a4), .val (.ref a5)] [(.ref a5), (.ref a1)])) _
    refine st11 _ ?_
    show Steps p.tables e below (T11.setTop (mkF m 31 #[.val (.ref a1), .val (.int p2), .val (.ref a3), .val .null, .val (.ref a4), .val (.ref a5)] [])) _
    exact X11.returnOut hx Bd.returns (hb hby d2_31) hr
  · show QR Z a1 a3 (.ref a5) h0 n0 _ T11.heap _
    rw [e11]
    exact ⟨rfl, N11, K11, ((((((E_a1.keep Kq6).wr W7).wr W8).wr W9).wr W10).wr W11), (((Fw8.other W9 (Or.inr (slot_ne (Or.inr (hw _ (List.mem_of_getElem? (i := 29) rfl))) (Or.inr (hw _ (List.mem_of_getElem? (i := 31) rfl))) (by decide) (t := (.array .byte)) (t' := (.object "java/lang/String")) (by decide) (by decide)))).other W10 (Or.inr (slot_ne (Or.inr (hw _ (List.mem_of_getElem? (i := 29) rfl))) (Or.inr (hw _ (List.mem_of_getElem? (i := 33) rfl))) (by decide) (t := (.array .byte)) (t' := (.object "java/lang/String")) (by decide) (by decide)))).other W11 (Or.inr (slot_ne (Or.inr (hw _ (List.mem_of_getElem? (i := 29) rfl))) (Or.inr (hw _ (List.mem_of_getElem? (i := 35) rfl))) (by decide) (t := (.array .byte)) (t' := (.object "com/example/cell5/cell5/http/Reply$Streamed")) (by decide) (by decide)))), Fw11⟩
theorem ef_2_5 (m : MethodId) (x0 : Addr) (x1 : Int32) (x2 : Addr) (x3 : Addr) (x4 : Addr) : entryFrame m #[(.ref x0), (.int x1), (.ref x2), (.ref x3), (.ref x4), .null] 6 = mkF m 0 #[.val (.ref x0), .val (.int x1), .val (.ref x2), .val (.ref x3), .val (.ref x4), .val .null] [] := by first | (simp [entryFrame, mkF, argsToLocals, Value.category]; done) | rfl
set_option maxRecDepth 65536 in
set_option maxHeartbeats 40000000 in
theorem rm2_5 (l : Launch) (Z : State) (a0 : Array Value) (hw : ∀ d ∈ tables_1, d.before a0 Z = true) (ws : List Jvm.Cond) (a1 : Addr) (p2 : Int32) (a3 : Addr) (a4 : Addr) (a5 : Addr) (u_status_a1 : Value) (u_body_a1 : Value) (u_location_a1 : Value) (u_type_a1 : Value) (u_streamed_a1 : Value) (h0 : Heap) (n0 : Nat) (Z0 : n0 ≤ h0.size) (E_a1 : Exa Z h0 a1 "com/example/cell5/cell5/http/Reply") (F_status_a1 : Fld Z h0 a1 "com/example/cell5/cell5/http/Reply" "status" "I" u_status_a1) (g_a1 : n0 ≤ a1) (F_body_a1 : Fld Z h0 a1 "com/example/cell5/cell5/http/Reply" "body" "[B" u_body_a1) (F_location_a1 : Fld Z h0 a1 "com/example/cell5/cell5/http/Reply" "location" "Ljava/lang/String;" u_location_a1) (F_type_a1 : Fld Z h0 a1 "com/example/cell5/cell5/http/Reply" "type" "Ljava/lang/String;" u_type_a1) (F_streamed_a1 : Fld Z h0 a1 "com/example/cell5/cell5/http/Reply" "streamed" "Lcom/example/cell5/cell5/http/Reply$Streamed;" u_streamed_a1) :
    MetFree l (⟨"com/example/cell5/cell5/http/Reply", "<init>", "(I[BLjava/lang/String;Ljava/lang/String;Lcom/example/cell5/cell5/http/Reply$Streamed;)V"⟩ : MethodName) (head1 (Jvm.Cond.code (⟨"com/example/cell5/cell5/http/Reply", "<init>", "(I[BLjava/lang/String;Ljava/lang/String;Lcom/example/cell5/cell5/http/Reply$Streamed;)V"⟩ : MethodName) prog_33_method_4_code 6 none :: ws) ({ frames := 2, cells := 0, slots := 0, locals := 24 } : Room)) (fun a U => a = #[(.ref a1), (.int p2), (.ref a3), (.ref a4), (.ref a5), .null] ∧ Z.Warmed39 U.vm ∧ U.heap = h0) (fun _ _ _ _ _ => True) (fun _ U o U' => ∃ v L, o = .returned v ∧ QR Z a1 a3 .null h0 n0 v U'.heap L ∧ FrameEnd U o U' L ({ frames := 2, cells := 0, slots := 0, locals := 24 } : Room).cells ({ frames := 2, cells := 0, slots := 0, locals := 24 } : Room).slots) := by
  refine MetFree.of_bodySF (plainFor_of_name pn_2) hisR ?_
  intro p e s m args below meth c s₁ Bd hml0 hP hK
  obtain ⟨rfl, hZ, hh⟩ := hP
  have hx := Bd.exec
  have hby := Bd.bytes
  have hml : c.maxLocals = 6 := hml0
  have hown : s.vm.findClass "com/example/cell5/cell5/http/Reply" = some m.cls := findClass_of_methodNamed Bd.named
  have hnm := (name_of_methodNamed Bd.named Bd.method).1
  have X0 : Stand p l e ({ frames := 2, cells := 0, slots := 0, locals := 24 } : Room) s m #[(.ref a1), (.int p2), (.ref a3), (.ref a4), (.ref a5), .null] below meth c s₁ [] 0 0 := Stand.of_body Bd
  have e0 : s₁.heap = h0 := by rw [← hh, Bd.state]; rfl
  have N0 := Fr.nil n0
  have pre0 : ∀ t, Steps p.tables e below (s₁.setTop (mkF m 0 #[.val (.ref a1), .val (.int p2), .val (.ref a3), .val (.ref a4), .val (.ref a5), .val .null] [])) t → Steps p.tables e below (s₁.setTop (entryFrame m #[(.ref a1), (.int p2), (.ref a3), (.ref a4), (.ref a5), .null] 6)) t := fun t k => castTop (ef_2_5 m a1 p2 a3 a4 a5) k
  obtain ⟨_, _, ⟨T6, L6, k6, n6⟩, -, X6, ⟨Lc6, hQ6, l6, y6, z6⟩, st6⟩ := X0.specialBack hx (y := (⟨"java/lang/Record", "<init>", "()V"⟩ : MethodName)) rfl hown (mvT hZ (hw _ (List.mem_of_getElem? (i := 18) rfl))) (mvT hZ (hw _ (List.mem_of_getElem? (i := 19) rfl))) (mvT hZ (hw _ (List.mem_of_getElem? (i := 22) rfl))) (by decide) (backOf (W := 0) (rm3 l Z a0 hw [] a1 h0 n0 Z0) hZ (hw _ (List.mem_of_getElem? (i := 22) rfl)) (hw _ (List.mem_of_getElem? (i := 21) rfl)) (by decide) (by decide)) (g := (mkF m 1 #[.val (.ref a1), .val (.int p2), .val (.ref a3), .val (.ref a4), .val (.ref a5), .val .null] [(.ref a1)])) rfl (by rw [hml]; rfl) (Steps.refl _) (a := a1) (argsL := []) (rest := []) (lenOf pd_2_2 rfl) rfl (by show 2 * 0 + _ ≤ _; exact Nat.le_of_eq rfl) (hb hby d2_1) (fun _ _ => ⟨rfl, e0, (Nat.le_of_ble_eq_true rfl), (Nat.le_of_ble_eq_true rfl)⟩)
  dsimp only [Pt.U, Pt.locs, Pt.cells, Pt.slots] at X6 l6 y6 z6 st6 hQ6
  subst l6 y6 z6
  obtain ⟨rfl, N6q, h6q⟩ := hQ6
  have Kq6 : Keep h0 T6.heap [] := by rw [h6q]; exact Keep.refl _ _
  have Kc6 : Keep h0 T6.heap [a1] := by rw [h6q]; exact Keep.refl _ _
  have N6 := Fr.app N0 N6q
  obtain ⟨T7, h7, X7, e7, W7, st7⟩ := putF X6 hx hZ hown (host := "") (Or.inl (hw _ (List.mem_of_getElem? (i := 26) rfl))) Via.refl rfl (F_status_a1.keep Kq6 List.not_mem_nil) (E_a1.keep Kq6) (Or.inr ⟨(hw _ (List.mem_of_getElem? (i := 27) rfl)), rfl, hnm⟩) (hw _ (List.mem_of_getElem? (i := 10) rfl)) (ty := .int) (by decide) rfl rfl (g := (mkF m 6 #[.val (.ref a1), .val (.int p2), .val (.ref a3), .val (.ref a4), .val (.ref a5), .val .null] [(.int p2), (.ref a1)])) rfl rfl (hb hby d2_6)
  have Fw7 := (F_status_a1.keep Kq6 List.not_mem_nil).same W7
  have K7 : Keep h0 h7 [a1] := Kc6.wr W7 (Or.inl (List.mem_of_getElem? (i := 0) rfl))
  have N7 := Fr.snoc X7 N6 g_a1
  obtain ⟨T8, h8, X8, e8, W8, st8⟩ := putF X7 hx hZ hown (host := "") (Or.inl (hw _ (List.mem_of_getElem? (i := 28) rfl))) Via.refl e7 ((F_body_a1.keep Kq6 List.not_mem_nil).other W7 (Or.inr (slot_ne (Or.inr (hw _ (List.mem_of_getElem? (i := 29) rfl))) (Or.inr (hw _ (List.mem_of_getElem? (i := 27) rfl))) (by decide) (t := (.array .byte)) (t' := .int) (by decide) (by decide)))) ((E_a1.keep Kq6).wr W7) (Or.inr ⟨(hw _ (List.mem_of_getElem? (i := 29) rfl)), rfl, hnm⟩) (hw _ (List.mem_of_getElem? (i := 10) rfl)) (ty := (.array .byte)) (by decide) rfl rfl (g := (mkF m 11 #[.val (.ref a1), .val (.int p2), .val (.ref a3), .val (.ref a4), .val (.ref a5), .val .null] [(.ref a3), (.ref a1)])) rfl rfl (hb hby d2_11)
  have Fw8 := ((F_body_a1.keep Kq6 List.not_mem_nil).other W7 (Or.inr (slot_ne (Or.inr (hw _ (List.mem_of_getElem? (i := 29) rfl))) (Or.inr (hw _ (List.mem_of_getElem? (i := 27) rfl))) (by decide) (t := (.array .byte)) (t' := .int) (by decide) (by decide)))).same W8
  have K8 : Keep h0 h8 [a1] := K7.wr W8 (Or.inl (List.mem_of_getElem? (i := 0) rfl))
  have N8 := Fr.snoc X8 N7 g_a1
  obtain ⟨T9, h9, X9, e9, W9, st9⟩ := putF X8 hx hZ hown (host := "") (Or.inl (hw _ (List.mem_of_getElem? (i := 30) rfl))) Via.refl e8 (((F_location_a1.keep Kq6 List.not_mem_nil).other W7 (Or.inr (slot_ne (Or.inr (hw _ (List.mem_of_getElem? (i := 31) rfl))) (Or.inr (hw _ (List.mem_of_getElem? (i := 27) rfl))) (by decide) (t := (.object "java/lang/String")) (t' := .int) (by decide) (by decide)))).other W8 (Or.inr (slot_ne (Or.inr (hw _ (List.mem_of_getElem? (i := 31) rfl))) (Or.inr (hw _ (List.mem_of_getElem? (i := 29) rfl))) (by decide) (t := (.object "java/lang/String")) (t' := (.array .byte)) (by decide) (by decide)))) (((E_a1.keep Kq6).wr W7).wr W8) (Or.inr ⟨(hw _ (List.mem_of_getElem? (i := 31) rfl)), rfl, hnm⟩) (hw _ (List.mem_of_getElem? (i := 10) rfl)) (ty := (.object "java/lang/String")) (by decide) rfl rfl (g := (mkF m 16 #[.val (.ref a1), .val (.int p2), .val (.ref a3), .val (.ref a4), .val (.ref a5), .val .null] [(.ref a4), (.ref a1)])) rfl rfl (hb hby d2_16)
  have Fw9 := (((F_location_a1.keep Kq6 List.not_mem_nil).other W7 (Or.inr (slot_ne (Or.inr (hw _ (List.mem_of_getElem? (i := 31) rfl))) (Or.inr (hw _ (List.mem_of_getElem? (i := 27) rfl))) (by decide) (t := (.object "java/lang/String")) (t' := .int) (by decide) (by decide)))).other W8 (Or.inr (slot_ne (Or.inr (hw _ (List.mem_of_getElem? (i := 31) rfl))) (Or.inr (hw _ (List.mem_of_getElem? (i := 29) rfl))) (by decide) (t := (.object "java/lang/String")) (t' := (.array .byte)) (by decide) (by decide)))).same W9
  have K9 : Keep h0 h9 [a1] := K8.wr W9 (Or.inl (List.mem_of_getElem? (i := 0) rfl))
  have N9 := Fr.snoc X9 N8 g_a1
  obtain ⟨T10, h10, X10, e10, W10, st10⟩ := putF X9 hx hZ hown (host := "") (Or.inl (hw _ (List.mem_of_getElem? (i := 32) rfl))) Via.refl e9 ((((F_type_a1.keep Kq6 List.not_mem_nil).other W7 (Or.inr (slot_ne (Or.inr (hw _ (List.mem_of_getElem? (i := 33) rfl))) (Or.inr (hw _ (List.mem_of_getElem? (i := 27) rfl))) (by decide) (t := (.object "java/lang/String")) (t' := .int) (by decide) (by decide)))).other W8 (Or.inr (slot_ne (Or.inr (hw _ (List.mem_of_getElem? (i := 33) rfl))) (Or.inr (hw _ (List.mem_of_getElem? (i := 29) rfl))) (by decide) (t := (.object "java/lang/String")) (t' := (.array .byte)) (by decide) (by decide)))).other W9 (Or.inr (slot_ne (Or.inr (hw _ (List.mem_of_getElem? (i := 33) rfl))) (Or.inr (hw _ (List.mem_of_getElem? (i := 31) rfl))) (by decide) (t := (.object "java/lang/String")) (t' := (.object "java/lang/String")) (by decide) (by decide)))) ((((E_a1.keep Kq6).wr W7).wr W8).wr W9) (Or.inr ⟨(hw _ (List.mem_of_getElem? (i := 33) rfl)), rfl, hnm⟩) (hw _ (List.mem_of_getElem? (i := 10) rfl)) (ty := (.object "java/lang/String")) (by decide) rfl rfl (g := (mkF m 22 #[.val (.ref a1), .val (.int p2), .val (.ref a3), .val (.ref a4), .val (.ref a5), .val .null] [(.ref a5), (.ref a1)])) rfl rfl (hb hby d2_22)
  have Fw10 := ((((F_type_a1.keep Kq6 List.not_mem_nil).other W7 (Or.inr (slot_ne (Or.inr (hw _ (List.mem_of_getElem? (i := 33) rfl))) (Or.inr (hw _ (List.mem_of_getElem? (i := 27) rfl))) (by decide) (t := (.object "java/lang/String")) (t' := .int) (by decide) (by decide)))).other W8 (Or.inr (slot_ne (Or.inr (hw _ (List.mem_of_getElem? (i := 33) rfl))) (Or.inr (hw _ (List.mem_of_getElem? (i := 29) rfl))) (by decide) (t := (.object "java/lang/String")) (t' := (.array .byte)) (by decide) (by decide)))).other W9 (Or.inr (slot_ne (Or.inr (hw _ (List.mem_of_getElem? (i := 33) rfl))) (Or.inr (hw _ (List.mem_of_getElem? (i := 31) rfl))) (by decide) (t := (.object "java/lang/String")) (t' := (.object "java/lang/String")) (by decide) (by decide)))).same W10
  have K10 : Keep h0 h10 [a1] := K9.wr W10 (Or.inl (List.mem_of_getElem? (i := 0) rfl))
  have N10 := Fr.snoc X10 N9 g_a1
  obtain ⟨T11, h11, X11, e11, W11, st11⟩ := putF X10 hx hZ hown (host := "") (Or.inl (hw _ (List.mem_of_getElem? (i := 34) rfl))) Via.refl e10 (((((F_streamed_a1.keep Kq6 List.not_mem_nil).other W7 (Or.inr (slot_ne (Or.inr (hw _ (List.mem_of_getElem? (i := 35) rfl))) (Or.inr (hw _ (List.mem_of_getElem? (i := 27) rfl))) (by decide) (t := (.object "com/example/cell5/cell5/http/Reply$Streamed")) (t' := .int) (by decide) (by decide)))).other W8 (Or.inr (slot_ne (Or.inr (hw _ (List.mem_of_getElem? (i := 35) rfl))) (Or.inr (hw _ (List.mem_of_getElem? (i := 29) rfl))) (by decide) (t := (.object "com/example/cell5/cell5/http/Reply$Streamed")) (t' := (.array .byte)) (by decide) (by decide)))).other W9 (Or.inr (slot_ne (Or.inr (hw _ (List.mem_of_getElem? (i := 35) rfl))) (Or.inr (hw _ (List.mem_of_getElem? (i := 31) rfl))) (by decide) (t := (.object "com/example/cell5/cell5/http/Reply$Streamed")) (t' := (.object "java/lang/String")) (by decide) (by decide)))).other W10 (Or.inr (slot_ne (Or.inr (hw _ (List.mem_of_getElem? (i := 35) rfl))) (Or.inr (hw _ (List.mem_of_getElem? (i := 33) rfl))) (by decide) (t := (.object "com/example/cell5/cell5/http/Reply$Streamed")) (t' := (.object "java/lang/String")) (by decide) (by decide)))) (((((E_a1.keep Kq6).wr W7).wr W8).wr W9).wr W10) (Or.inr ⟨(hw _ (List.mem_of_getElem? (i := 35) rfl)), rfl, hnm⟩) (hw _ (List.mem_of_getElem? (i := 10) rfl)) (ty := (.object "com/example/cell5/cell5/http/Reply$Streamed")) (by decide) rfl rfl (g := (mkF m 28 #[.val (.ref a1), .val (.int p2), .val (.ref a3), .val (.ref a4), .val (.ref a5), .val .null] [.null, (.ref a1)])) rfl rfl (hb hby d2_28)
  have Fw11 := (((((F_streamed_a1.keep Kq6 List.not_mem_nil).other W7 (Or.inr (slot_ne (Or.inr (hw _ (List.mem_of_getElem? (i := 35) rfl))) (Or.inr (hw _ (List.mem_of_getElem? (i := 27) rfl))) (by decide) (t := (.object "com/example/cell5/cell5/http/Reply$Streamed")) (t' := .int) (by decide) (by decide)))).other W8 (Or.inr (slot_ne (Or.inr (hw _ (List.mem_of_getElem? (i := 35) rfl))) (Or.inr (hw _ (List.mem_of_getElem? (i := 29) rfl))) (by decide) (t := (.object "com/example/cell5/cell5/http/Reply$Streamed")) (t' := (.array .byte)) (by decide) (by decide)))).other W9 (Or.inr (slot_ne (Or.inr (hw _ (List.mem_of_getElem? (i := 35) rfl))) (Or.inr (hw _ (List.mem_of_getElem? (i := 31) rfl))) (by decide) (t := (.object "com/example/cell5/cell5/http/Reply$Streamed")) (t' := (.object "java/lang/String")) (by decide) (by decide)))).other W10 (Or.inr (slot_ne (Or.inr (hw _ (List.mem_of_getElem? (i := 35) rfl))) (Or.inr (hw _ (List.mem_of_getElem? (i := 33) rfl))) (by decide) (t := (.object "com/example/cell5/cell5/http/Reply$Streamed")) (t' := (.object "java/lang/String")) (by decide) (by decide)))).same W11
  have K11 : Keep h0 h11 [a1] := K10.wr W11 (Or.inl (List.mem_of_getElem? (i := 0) rfl))
  have N11 := Fr.snoc X11 N10 g_a1
  obtain ⟨fs, hr, hrun, hended, hW, hsame⟩ := X11.leave (v := none) (fun _ => rfl)
  refine ⟨_, _, pre0 _ ?_, hrun, hended, _, _, rfl, ?_, ⟨_, rfl⟩, hW, hsame.mono (by decide) (by decide)⟩
  · show Steps p.tables e below (s₁.setTop (mkF m 0 #[.val (.ref a1), .val (.int p2), .val (.ref a3), .val (.ref a4), .val (.ref a5), .val .null] [])) _
    refine XS.aloadN X0.here hx rfl (hb hby d2_0) rfl rfl ?_
    show Steps p.tables e below (s₁.setTop (mkF m 1 #[.val (.ref a1), .val (.int p2), .val (.ref a3), .val (.ref a4), .val (.ref a5), .val .null] [(.ref a1)])) _
    refine st6.trans ?_
    show Steps p.tables e below (T6.setTop (mkF m 4 #[.val (.ref a1), .val (.int p2), .val (.ref a3), .val (.ref a4), .val (.ref a5), .val .null] [])) _
    refine XS.aloadN X6.here hx rfl (hb hby d2_4) rfl rfl ?_
    show Steps p.tables e below (T6.setTop (mkF m 5 #[.val (.ref a1), .val (.int p2), .val (.ref a3), .val (.ref a4), .val (.ref a5), .val .null] [(.ref a1)])) _
    refine XS.iloadN X6.here hx rfl (hb hby d2_5) rfl ?_
    show Steps p.tables e below (T6.setTop (mkF m 6 #[.val (.ref a1), .val (.int p2), .val (.ref a3), .val (.ref a4), .val (.ref a5), .val .null] [(.int p2), (.ref a1)])) _
    refine st7 _ ?_
    show Steps p.tables e below (T7.setTop (mkF m 9 #[.val (.ref a1), .val (.int p2), .val (.ref a3), .val (.ref a4), .val (.ref a5), .val .null] [])) _
    refine XS.aloadN X7.here hx rfl (hb hby d2_9) rfl rfl ?_
    show Steps p.tables e below (T7.setTop (mkF m 10 #[.val (.ref a1), .val (.int p2), .val (.ref a3), .val (.ref a4), .val (.ref a5), .val .null] [(.ref a1)])) _
    refine XS.aloadN X7.here hx rfl (hb hby d2_10) rfl rfl ?_
    show Steps p.tables e below (T7.setTop (mkF m 11 #[.val (.ref a1), .val (.int p2), .val (.ref a3), .val (.ref a4), .val (.ref a5), .val .null] [(.ref a3), (.ref a1)])) _
    refine st8 _ ?_
    show Steps p.tables e below (T8.setTop (mkF m 14 #[.val (.ref a1), .val (.int p2), .val (.ref a3), .val (.ref a4), .val (.ref a5), .val .null] [])) _
    refine XS.aloadN X8.here hx rfl (hb hby d2_14) rfl rfl ?_
    show Steps p.tables e below (T8.setTop (mkF m 15 #[.val (.ref a1), .val (.int p2), .val (.ref a3), .val (.ref a4), .val (.ref a5), .val .null] [(.ref a1)])) _
    refine XS.aloadN X8.here hx rfl (hb hby d2_15) rfl rfl ?_
    show Steps p.tables e below (T8.setTop (mkF m 16 #[.val (.ref a1), .val (.int p2), .val (.ref a3), .val (.ref a4), .val (.ref a5), .val .null] [(.ref a4), (.ref a1)])) _
    refine st9 _ ?_
    show Steps p.tables e below (T9.setTop (mkF m 19 #[.val (.ref a1), .val (.int p2), .val (.ref a3), .val (.ref a4), .val (.ref a5), .val .null] [])) _
    refine XS.aloadN X9.here hx rfl (hb hby d2_19) rfl rfl ?_
    show Steps p.tables e below (T9.setTop (mkF m 20 #[.val (.ref a1), .val (.int p2), .val (.ref a3), .val (.ref a4), .val (.ref a5), .val .null] [(.ref a1)])) _
    refine XS.aload X9.here hx rfl (hb hby d2_20) rfl rfl ?_
    show Steps p.tables e below (T9.setTop (mkF m 22 #[.val (.ref a1), .val (.int p2), .val (.ref a3), .val (.ref a4), .val (.ref a5), .val .null] [(.ref a5), (.ref a1)])) _
    refine st10 _ ?_
    show Steps p.tables e below (T10.setTop (mkF m 25 #[.val (.ref a1), .val (.int p2), .val (.ref a3), .val (.ref a4), .val (.ref a5), .val .null] [])) _
    refine XS.aloadN X10.here hx rfl (hb hby d2_25) rfl rfl ?_
    show Steps p.tables e below (T10.setTop (mkF m 26 #[.val (.ref a1), .val (.int p2), .val (.ref a3), .val (.ref a4), .val (.ref a5), .val .null] [(.ref a1)])) _
    refine XS.aload X10.here hx rfl (hb hby d2_26) rfl rfl ?_
    show Steps p.tables e below (T10.setTop (mkF m 28 #[.val (.ref a1), .val (.int p2), .val (.ref a3), .val (.ref a4), .val (.ref a5), .val .null] [.null, (.ref a1)])) _
    refine st11 _ ?_
    show Steps p.tables e below (T11.setTop (mkF m 31 #[.val (.ref a1), .val (.int p2), .val (.ref a3), .val (.ref a4), .val (.ref a5), .val .null] [])) _
    exact X11.returnOut hx Bd.returns (hb hby d2_31) hr
  · show QR Z a1 a3 .null h0 n0 _ T11.heap _
    rw [e11]
    exact ⟨rfl, N11, K11, ((((((E_a1.keep Kq6).wr W7).wr W8).wr W9).wr W10).wr W11), (((Fw8.other W9 (Or.inr (slot_ne (Or.inr (hw _ (List.mem_of_getElem? (i := 29) rfl))) (Or.inr (hw _ (List.mem_of_getElem? (i := 31) rfl))) (by decide) (t := (.array .byte)) (t' := (.object "java/lang/String")) (by decide) (by decide)))).other W10 (Or.inr (slot_ne (Or.inr (hw _ (List.mem_of_getElem? (i := 29) rfl))) (Or.inr (hw _ (List.mem_of_getElem? (i := 33) rfl))) (by decide) (t := (.array .byte)) (t' := (.object "java/lang/String")) (by decide) (by decide)))).other W11 (Or.inr (slot_ne (Or.inr (hw _ (List.mem_of_getElem? (i := 29) rfl))) (Or.inr (hw _ (List.mem_of_getElem? (i := 35) rfl))) (by decide) (t := (.array .byte)) (t' := (.object "com/example/cell5/cell5/http/Reply$Streamed")) (by decide) (by decide)))), Fw11⟩
theorem ef_2_35 (m : MethodId) (x0 : Addr) (x1 : Int32) (x2 : Addr) (x4 : Addr) : entryFrame m #[(.ref x0), (.int x1), (.ref x2), .null, (.ref x4), .null] 6 = mkF m 0 #[.val (.ref x0), .val (.int x1), .val (.ref x2), .val .null, .val (.ref x4), .val .null] [] := by first | (simp [entryFrame, mkF, argsToLocals, Value.category]; done) | rfl
set_option maxRecDepth 65536 in
set_option maxHeartbeats 40000000 in
theorem rm2_35 (l : Launch) (Z : State) (a0 : Array Value) (hw : ∀ d ∈ tables_1, d.before a0 Z = true) (ws : List Jvm.Cond) (a1 : Addr) (p2 : Int32) (a3 : Addr) (a4 : Addr) (u_status_a1 : Value) (u_body_a1 : Value) (u_location_a1 : Value) (u_type_a1 : Value) (u_streamed_a1 : Value) (h0 : Heap) (n0 : Nat) (Z0 : n0 ≤ h0.size) (E_a1 : Exa Z h0 a1 "com/example/cell5/cell5/http/Reply") (F_status_a1 : Fld Z h0 a1 "com/example/cell5/cell5/http/Reply" "status" "I" u_status_a1) (g_a1 : n0 ≤ a1) (F_body_a1 : Fld Z h0 a1 "com/example/cell5/cell5/http/Reply" "body" "[B" u_body_a1) (F_location_a1 : Fld Z h0 a1 "com/example/cell5/cell5/http/Reply" "location" "Ljava/lang/String;" u_location_a1) (F_type_a1 : Fld Z h0 a1 "com/example/cell5/cell5/http/Reply" "type" "Ljava/lang/String;" u_type_a1) (F_streamed_a1 : Fld Z h0 a1 "com/example/cell5/cell5/http/Reply" "streamed" "Lcom/example/cell5/cell5/http/Reply$Streamed;" u_streamed_a1) :
    MetFree l (⟨"com/example/cell5/cell5/http/Reply", "<init>", "(I[BLjava/lang/String;Ljava/lang/String;Lcom/example/cell5/cell5/http/Reply$Streamed;)V"⟩ : MethodName) (head1 (Jvm.Cond.code (⟨"com/example/cell5/cell5/http/Reply", "<init>", "(I[BLjava/lang/String;Ljava/lang/String;Lcom/example/cell5/cell5/http/Reply$Streamed;)V"⟩ : MethodName) prog_33_method_4_code 6 none :: ws) ({ frames := 2, cells := 0, slots := 0, locals := 24 } : Room)) (fun a U => a = #[(.ref a1), (.int p2), (.ref a3), .null, (.ref a4), .null] ∧ Z.Warmed39 U.vm ∧ U.heap = h0) (fun _ _ _ _ _ => True) (fun _ U o U' => ∃ v L, o = .returned v ∧ QR Z a1 a3 .null h0 n0 v U'.heap L ∧ FrameEnd U o U' L ({ frames := 2, cells := 0, slots := 0, locals := 24 } : Room).cells ({ frames := 2, cells := 0, slots := 0, locals := 24 } : Room).slots) := by
  refine MetFree.of_bodySF (plainFor_of_name pn_2) hisR ?_
  intro p e s m args below meth c s₁ Bd hml0 hP hK
  obtain ⟨rfl, hZ, hh⟩ := hP
  have hx := Bd.exec
  have hby := Bd.bytes
  have hml : c.maxLocals = 6 := hml0
  have hown : s.vm.findClass "com/example/cell5/cell5/http/Reply" = some m.cls := findClass_of_methodNamed Bd.named
  have hnm := (name_of_methodNamed Bd.named Bd.method).1
  have X0 : Stand p l e ({ frames := 2, cells := 0, slots := 0, locals := 24 } : Room) s m #[(.ref a1), (.int p2), (.ref a3), .null, (.ref a4), .null] below meth c s₁ [] 0 0 := Stand.of_body Bd
  have e0 : s₁.heap = h0 := by rw [← hh, Bd.state]; rfl
  have N0 := Fr.nil n0
  have pre0 : ∀ t, Steps p.tables e below (s₁.setTop (mkF m 0 #[.val (.ref a1), .val (.int p2), .val (.ref a3), .val .null, .val (.ref a4), .val .null] [])) t → Steps p.tables e below (s₁.setTop (entryFrame m #[(.ref a1), (.int p2), (.ref a3), .null, (.ref a4), .null] 6)) t := fun t k => castTop (ef_2_35 m a1 p2 a3 a4) k
  obtain ⟨_, _, ⟨T5, L5, k5, n5⟩, -, X5, ⟨Lc5, hQ5, l5, y5, z5⟩, st5⟩ := X0.specialBack hx (y := (⟨"java/lang/Record", "<init>", "()V"⟩ : MethodName)) rfl hown (mvT hZ (hw _ (List.mem_of_getElem? (i := 18) rfl))) (mvT hZ (hw _ (List.mem_of_getElem? (i := 19) rfl))) (mvT hZ (hw _ (List.mem_of_getElem? (i := 22) rfl))) (by decide) (backOf (W := 0) (rm3 l Z a0 hw [] a1 h0 n0 Z0) hZ (hw _ (List.mem_of_getElem? (i := 22) rfl)) (hw _ (List.mem_of_getElem? (i := 21) rfl)) (by decide) (by decide)) (g := (mkF m 1 #[.val (.ref a1), .val (.int p2), .val (.ref a3), .val .null, .val (.ref a4), .val .null] [(.ref a1)])) rfl (by rw [hml]; rfl) (Steps.refl _) (a := a1) (argsL := []) (rest := []) (lenOf pd_2_2 rfl) rfl (by show 2 * 0 + _ ≤ _; exact Nat.le_of_eq rfl) (hb hby d2_1) (fun _ _ => ⟨rfl, e0, (Nat.le_of_ble_eq_true rfl), (Nat.le_of_ble_eq_true rfl)⟩)
  dsimp only [Pt.U, Pt.locs, Pt.cells, Pt.slots] at X5 l5 y5 z5 st5 hQ5
  subst l5 y5 z5
  obtain ⟨rfl, N5q, h5q⟩ := hQ5
  have Kq5 : Keep h0 T5.heap [] := by rw [h5q]; exact Keep.refl _ _
  have Kc5 : Keep h0 T5.heap [a1] := by rw [h5q]; exact Keep.refl _ _
  have N5 := Fr.app N0 N5q
  obtain ⟨T6, h6, X6, e6, W6, st6⟩ := putF X5 hx hZ hown (host := "") (Or.inl (hw _ (List.mem_of_getElem? (i := 26) rfl))) Via.refl rfl (F_status_a1.keep Kq5 List.not_mem_nil) (E_a1.keep Kq5) (Or.inr ⟨(hw _ (List.mem_of_getElem? (i := 27) rfl)), rfl, hnm⟩) (hw _ (List.mem_of_getElem? (i := 10) rfl)) (ty := .int) (by decide) rfl rfl (g := (mkF m 6 #[.val (.ref a1), .val (.int p2), .val (.ref a3), .val .null, .val (.ref a4), .val .null] [(.int p2), (.ref a1)])) rfl rfl (hb hby d2_6)
  have Fw6 := (F_status_a1.keep Kq5 List.not_mem_nil).same W6
  have K6 : Keep h0 h6 [a1] := Kc5.wr W6 (Or.inl (List.mem_of_getElem? (i := 0) rfl))
  have N6 := Fr.snoc X6 N5 g_a1
  obtain ⟨T7, h7, X7, e7, W7, st7⟩ := putF X6 hx hZ hown (host := "") (Or.inl (hw _ (List.mem_of_getElem? (i := 28) rfl))) Via.refl e6 ((F_body_a1.keep Kq5 List.not_mem_nil).other W6 (Or.inr (slot_ne (Or.inr (hw _ (List.mem_of_getElem? (i := 29) rfl))) (Or.inr (hw _ (List.mem_of_getElem? (i := 27) rfl))) (by decide) (t := (.array .byte)) (t' := .int) (by decide) (by decide)))) ((E_a1.keep Kq5).wr W6) (Or.inr ⟨(hw _ (List.mem_of_getElem? (i := 29) rfl)), rfl, hnm⟩) (hw _ (List.mem_of_getElem? (i := 10) rfl)) (ty := (.array .byte)) (by decide) rfl rfl (g := (mkF m 11 #[.val (.ref a1), .val (.int p2), .val (.ref a3), .val .null, .val (.ref a4), .val .null] [(.ref a3), (.ref a1)])) rfl rfl (hb hby d2_11)
  have Fw7 := ((F_body_a1.keep Kq5 List.not_mem_nil).other W6 (Or.inr (slot_ne (Or.inr (hw _ (List.mem_of_getElem? (i := 29) rfl))) (Or.inr (hw _ (List.mem_of_getElem? (i := 27) rfl))) (by decide) (t := (.array .byte)) (t' := .int) (by decide) (by decide)))).same W7
  have K7 : Keep h0 h7 [a1] := K6.wr W7 (Or.inl (List.mem_of_getElem? (i := 0) rfl))
  have N7 := Fr.snoc X7 N6 g_a1
  obtain ⟨T8, h8, X8, e8, W8, st8⟩ := putF X7 hx hZ hown (host := "") (Or.inl (hw _ (List.mem_of_getElem? (i := 30) rfl))) Via.refl e7 (((F_location_a1.keep Kq5 List.not_mem_nil).other W6 (Or.inr (slot_ne (Or.inr (hw _ (List.mem_of_getElem? (i := 31) rfl))) (Or.inr (hw _ (List.mem_of_getElem? (i := 27) rfl))) (by decide) (t := (.object "java/lang/String")) (t' := .int) (by decide) (by decide)))).other W7 (Or.inr (slot_ne (Or.inr (hw _ (List.mem_of_getElem? (i := 31) rfl))) (Or.inr (hw _ (List.mem_of_getElem? (i := 29) rfl))) (by decide) (t := (.object "java/lang/String")) (t' := (.array .byte)) (by decide) (by decide)))) (((E_a1.keep Kq5).wr W6).wr W7) (Or.inr ⟨(hw _ (List.mem_of_getElem? (i := 31) rfl)), rfl, hnm⟩) (hw _ (List.mem_of_getElem? (i := 10) rfl)) (ty := (.object "java/lang/String")) (by decide) rfl rfl (g := (mkF m 16 #[.val (.ref a1), .val (.int p2), .val (.ref a3), .val .null, .val (.ref a4), .val .null] [.null, (.ref a1)])) rfl rfl (hb hby d2_16)
  have Fw8 := (((F_location_a1.keep Kq5 List.not_mem_nil).other W6 (Or.inr (slot_ne (Or.inr (hw _ (List.mem_of_getElem? (i := 31) rfl))) (Or.inr (hw _ (List.mem_of_getElem? (i := 27) rfl))) (by decide) (t := (.object "java/lang/String")) (t' := .int) (by decide) (by decide)))).other W7 (Or.inr (slot_ne (Or.inr (hw _ (List.mem_of_getElem? (i := 31) rfl))) (Or.inr (hw _ (List.mem_of_getElem? (i := 29) rfl))) (by decide) (t := (.object "java/lang/String")) (t' := (.array .byte)) (by decide) (by decide)))).same W8
  have K8 : Keep h0 h8 [a1] := K7.wr W8 (Or.inl (List.mem_of_getElem? (i := 0) rfl))
  have N8 := Fr.snoc X8 N7 g_a1
  obtain ⟨T9, h9, X9, e9, W9, st9⟩ := putF X8 hx hZ hown (host := "") (Or.inl (hw _ (List.mem_of_getElem? (i := 32) rfl))) Via.refl e8 ((((F_type_a1.keep Kq5 List.not_mem_nil).other W6 (Or.inr (slot_ne (Or.inr (hw _ (List.mem_of_getElem? (i := 33) rfl))) (Or.inr (hw _ (List.mem_of_getElem? (i := 27) rfl))) (by decide) (t := (.object "java/lang/String")) (t' := .int) (by decide) (by decide)))).other W7 (Or.inr (slot_ne (Or.inr (hw _ (List.mem_of_getElem? (i := 33) rfl))) (Or.inr (hw _ (List.mem_of_getElem? (i := 29) rfl))) (by decide) (t := (.object "java/lang/String")) (t' := (.array .byte)) (by decide) (by decide)))).other W8 (Or.inr (slot_ne (Or.inr (hw _ (List.mem_of_getElem? (i := 33) rfl))) (Or.inr (hw _ (List.mem_of_getElem? (i := 31) rfl))) (by decide) (t := (.object "java/lang/String")) (t' := (.object "java/lang/String")) (by decide) (by decide)))) ((((E_a1.keep Kq5).wr W6).wr W7).wr W8) (Or.inr ⟨(hw _ (List.mem_of_getElem? (i := 33) rfl)), rfl, hnm⟩) (hw _ (List.mem_of_getElem? (i := 10) rfl)) (ty := (.object "java/lang/String")) (by decide) rfl rfl (g := (mkF m 22 #[.val (.ref a1), .val (.int p2), .val (.ref a3), .val .null, .val (.ref a4), .val .null] [(.ref a4), (.ref a1)])) rfl rfl (hb hby d2_22)
  have Fw9 := ((((F_type_a1.keep Kq5 List.not_mem_nil).other W6 (Or.inr (slot_ne (Or.inr (hw _ (List.mem_of_getElem? (i := 33) rfl))) (Or.inr (hw _ (List.mem_of_getElem? (i := 27) rfl))) (by decide) (t := (.object "java/lang/String")) (t' := .int) (by decide) (by decide)))).other W7 (Or.inr (slot_ne (Or.inr (hw _ (List.mem_of_getElem? (i := 33) rfl))) (Or.inr (hw _ (List.mem_of_getElem? (i := 29) rfl))) (by decide) (t := (.object "java/lang/String")) (t' := (.array .byte)) (by decide) (by decide)))).other W8 (Or.inr (slot_ne (Or.inr (hw _ (List.mem_of_getElem? (i := 33) rfl))) (Or.inr (hw _ (List.mem_of_getElem? (i := 31) rfl))) (by decide) (t := (.object "java/lang/String")) (t' := (.object "java/lang/String")) (by decide) (by decide)))).same W9
  have K9 : Keep h0 h9 [a1] := K8.wr W9 (Or.inl (List.mem_of_getElem? (i := 0) rfl))
  have N9 := Fr.snoc X9 N8 g_a1
  obtain ⟨T10, h10, X10, e10, W10, st10⟩ := putF X9 hx hZ hown (host := "") (Or.inl (hw _ (List.mem_of_getElem? (i := 34) rfl))) Via.refl e9 (((((F_streamed_a1.keep Kq5 List.not_mem_nil).other W6 (Or.inr (slot_ne (Or.inr (hw _ (List.mem_of_getElem? (i := 35) rfl))) (Or.inr (hw _ (List.mem_of_getElem? (i := 27) rfl))) (by decide) (t := (.object "com/example/cell5/cell5/http/Reply$Streamed")) (t' := .int) (by decide) (by decide)))).other W7 (Or.inr (slot_ne (Or.inr (hw _ (List.mem_of_getElem? (i := 35) rfl))) (Or.inr (hw _ (List.mem_of_getElem? (i := 29) rfl))) (by decide) (t := (.object "com/example/cell5/cell5/http/Reply$Streamed")) (t' := (.array .byte)) (by decide) (by decide)))).other W8 (Or.inr (slot_ne (Or.inr (hw _ (List.mem_of_getElem? (i := 35) rfl))) (Or.inr (hw _ (List.mem_of_getElem? (i := 31) rfl))) (by decide) (t := (.object "com/example/cell5/cell5/http/Reply$Streamed")) (t' := (.object "java/lang/String")) (by decide) (by decide)))).other W9 (Or.inr (slot_ne (Or.inr (hw _ (List.mem_of_getElem? (i := 35) rfl))) (Or.inr (hw _ (List.mem_of_getElem? (i := 33) rfl))) (by decide) (t := (.object "com/example/cell5/cell5/http/Reply$Streamed")) (t' := (.object "java/lang/String")) (by decide) (by decide)))) (((((E_a1.keep Kq5).wr W6).wr W7).wr W8).wr W9) (Or.inr ⟨(hw _ (List.mem_of_getElem? (i := 35) rfl)), rfl, hnm⟩) (hw _ (List.mem_of_getElem? (i := 10) rfl)) (ty := (.object "com/example/cell5/cell5/http/Reply$Streamed")) (by decide) rfl rfl (g := (mkF m 28 #[.val (.ref a1), .val (.int p2), .val (.ref a3), .val .null, .val (.ref a4), .val .null] [.null, (.ref a1)])) rfl rfl (hb hby d2_28)
  have Fw10 := (((((F_streamed_a1.keep Kq5 List.not_mem_nil).other W6 (Or.inr (slot_ne (Or.inr (hw _ (List.mem_of_getElem? (i := 35) rfl))) (Or.inr (hw _ (List.mem_of_getElem? (i := 27) rfl))) (by decide) (t := (.object "com/example/cell5/cell5/http/Reply$Streamed")) (t' := .int) (by decide) (by decide)))).other W7 (Or.inr (slot_ne (Or.inr (hw _ (List.mem_of_getElem? (i := 35) rfl))) (Or.inr (hw _ (List.mem_of_getElem? (i := 29) rfl))) (by decide) (t := (.object "com/example/cell5/cell5/http/Reply$Streamed")) (t' := (.array .byte)) (by decide) (by decide)))).other W8 (Or.inr (slot_ne (Or.inr (hw _ (List.mem_of_getElem? (i := 35) rfl))) (Or.inr (hw _ (List.mem_of_getElem? (i := 31) rfl))) (by decide) (t := (.object "com/example/cell5/cell5/http/Reply$Streamed")) (t' := (.object "java/lang/String")) (by decide) (by decide)))).other W9 (Or.inr (slot_ne (Or.inr (hw _ (List.mem_of_getElem? (i := 35) rfl))) (Or.inr (hw _ (List.mem_of_getElem? (i := 33) rfl))) (by decide) (t := (.object "com/example/cell5/cell5/http/Reply$Streamed")) (t' := (.object "java/lang/String")) (by decide) (by decide)))).same W10
  have K10 : Keep h0 h10 [a1] := K9.wr W10 (Or.inl (List.mem_of_getElem? (i := 0) rfl))
  have N10 := Fr.snoc X10 N9 g_a1
  obtain ⟨fs, hr, hrun, hended, hW, hsame⟩ := X10.leave (v := none) (fun _ => rfl)
  refine ⟨_, _, pre0 _ ?_, hrun, hended, _, _, rfl, ?_, ⟨_, rfl⟩, hW, hsame.mono (by decide) (by decide)⟩
  · show Steps p.tables e below (s₁.setTop (mkF m 0 #[.val (.ref a1), .val (.int p2), .val (.ref a3), .val .null, .val (.ref a4), .val .null] [])) _
    refine XS.aloadN X0.here hx rfl (hb hby d2_0) rfl rfl ?_
    show Steps p.tables e below (s₁.setTop (mkF m 1 #[.val (.ref a1), .val (.int p2), .val (.ref a3), .val .null, .val (.ref a4), .val .null] [(.ref a1)])) _
    refine st5.trans ?_
    show Steps p.tables e below (T5.setTop (mkF m 4 #[.val (.ref a1), .val (.int p2), .val (.ref a3), .val .null, .val (.ref a4), .val .null] [])) _
    refine XS.aloadN X5.here hx rfl (hb hby d2_4) rfl rfl ?_
    show Steps p.tables e below (T5.setTop (mkF m 5 #[.val (.ref a1), .val (.int p2), .val (.ref a3), .val .null, .val (.ref a4), .val .null] [(.ref a1)])) _
    refine XS.iloadN X5.here hx rfl (hb hby d2_5) rfl ?_
    show Steps p.tables e below (T5.setTop (mkF m 6 #[.val (.ref a1), .val (.int p2), .val (.ref a3), .val .null, .val (.ref a4), .val .null] [(.int p2), (.ref a1)])) _
    refine st6 _ ?_
    show Steps p.tables e below (T6.setTop (mkF m 9 #[.val (.ref a1), .val (.int p2), .val (.ref a3), .val .null, .val (.ref a4), .val .null] [])) _
    refine XS.aloadN X6.here hx rfl (hb hby d2_9) rfl rfl ?_
    show Steps p.tables e below (T6.setTop (mkF m 10 #[.val (.ref a1), .val (.int p2), .val (.ref a3), .val .null, .val (.ref a4), .val .null] [(.ref a1)])) _
    refine XS.aloadN X6.here hx rfl (hb hby d2_10) rfl rfl ?_
    show Steps p.tables e below (T6.setTop (mkF m 11 #[.val (.ref a1), .val (.int p2), .val (.ref a3), .val .null, .val (.ref a4), .val .null] [(.ref a3), (.ref a1)])) _
    refine st7 _ ?_
    show Steps p.tables e below (T7.setTop (mkF m 14 #[.val (.ref a1), .val (.int p2), .val (.ref a3), .val .null, .val (.ref a4), .val .null] [])) _
    refine XS.aloadN X7.here hx rfl (hb hby d2_14) rfl rfl ?_
    show Steps p.tables e below (T7.setTop (mkF m 15 #[.val (.ref a1), .val (.int p2), .val (.ref a3), .val .null, .val (.ref a4), .val .null] [(.ref a1)])) _
    refine XS.aloadN X7.here hx rfl (hb hby d2_15) rfl rfl ?_
    show Steps p.tables e below (T7.setTop (mkF m 16 #[.val (.ref a1), .val (.int p2), .val (.ref a3), .val .null, .val (.ref a4), .val .null] [.null, (.ref a1)])) _
    refine st8 _ ?_
    show Steps p.tables e below (T8.setTop (mkF m 19 #[.val (.ref a1), .val (.int p2), .val (.ref a3), .val .null, .val (.ref a4), .val .null] [])) _
    refine XS.aloadN X8.here hx rfl (hb hby d2_19) rfl rfl ?_
    show Steps p.tables e below (T8.setTop (mkF m 20 #[.val (.ref a1), .val (.int p2), .val (.ref a3), .val .null, .val (.ref a4), .val .null] [(.ref a1)])) _
    refine XS.aload X8.here hx rfl (hb hby d2_20) rfl rfl ?_
    show Steps p.tables e below (T8.setTop (mkF m 22 #[.val (.ref a1), .val (.int p2), .val (.ref a3), .val .null, .val (.ref a4), .val .null] [(.ref a4), (.ref a1)])) _
    refine st9 _ ?_
    show Steps p.tables e below (T9.setTop (mkF m 25 #[.val (.ref a1), .val (.int p2), .val (.ref a3), .val .null, .val (.ref a4), .val .null] [])) _
    refine XS.aloadN X9.here hx rfl (hb hby d2_25) rfl rfl ?_
    show Steps p.tables e below (T9.setTop (mkF m 26 #[.val (.ref a1), .val (.int p2), .val (.ref a3), .val .null, .val (.ref a4), .val .null] [(.ref a1)])) _
    refine XS.aload X9.here hx rfl (hb hby d2_26) rfl rfl ?_
    show Steps p.tables e below (T9.setTop (mkF m 28 #[.val (.ref a1), .val (.int p2), .val (.ref a3), .val .null, .val (.ref a4), .val .null] [.null, (.ref a1)])) _
    refine st10 _ ?_
    show Steps p.tables e below (T10.setTop (mkF m 31 #[.val (.ref a1), .val (.int p2), .val (.ref a3), .val .null, .val (.ref a4), .val .null] [])) _
    exact X10.returnOut hx Bd.returns (hb hby d2_31) hr
  · show QR Z a1 a3 .null h0 n0 _ T10.heap _
    rw [e10]
    exact ⟨rfl, N10, K10, ((((((E_a1.keep Kq5).wr W6).wr W7).wr W8).wr W9).wr W10), (((Fw7.other W8 (Or.inr (slot_ne (Or.inr (hw _ (List.mem_of_getElem? (i := 29) rfl))) (Or.inr (hw _ (List.mem_of_getElem? (i := 31) rfl))) (by decide) (t := (.array .byte)) (t' := (.object "java/lang/String")) (by decide) (by decide)))).other W9 (Or.inr (slot_ne (Or.inr (hw _ (List.mem_of_getElem? (i := 29) rfl))) (Or.inr (hw _ (List.mem_of_getElem? (i := 33) rfl))) (by decide) (t := (.array .byte)) (t' := (.object "java/lang/String")) (by decide) (by decide)))).other W10 (Or.inr (slot_ne (Or.inr (hw _ (List.mem_of_getElem? (i := 29) rfl))) (Or.inr (hw _ (List.mem_of_getElem? (i := 35) rfl))) (by decide) (t := (.array .byte)) (t' := (.object "com/example/cell5/cell5/http/Reply$Streamed")) (by decide) (by decide)))), Fw10⟩
theorem rm2 (l : Launch) (Z : State) (a0 : Array Value) (hw : ∀ d ∈ tables_1, d.before a0 Z = true) (ws : List Jvm.Cond) (a1 : Addr) (p2 : Int32) (a3 : Addr) (v4 : Value) (a5 : Addr) (v6 : Value) (h0 : Heap) (n0 : Nat) (Z0 : n0 ≤ h0.size) (r4 : v4.isRef = true) (r6 : v6.isRef = true) (B : RF Z h0 a1) (g_a1 : n0 ≤ a1) :
    MetFree l (⟨"com/example/cell5/cell5/http/Reply", "<init>", "(I[BLjava/lang/String;Ljava/lang/String;Lcom/example/cell5/cell5/http/Reply$Streamed;)V"⟩ : MethodName) (head1 (Jvm.Cond.code (⟨"com/example/cell5/cell5/http/Reply", "<init>", "(I[BLjava/lang/String;Ljava/lang/String;Lcom/example/cell5/cell5/http/Reply$Streamed;)V"⟩ : MethodName) prog_33_method_4_code 6 none :: ws) ({ frames := 2, cells := 0, slots := 0, locals := 24 } : Room)) (fun a U => a = #[(.ref a1), (.int p2), (.ref a3), v4, (.ref a5), v6] ∧ Z.Warmed39 U.vm ∧ U.heap = h0) (fun _ _ _ _ _ => True) (fun _ U o U' => ∃ v L, o = .returned v ∧ QR Z a1 a3 v6 h0 n0 v U'.heap L ∧ FrameEnd U o U' L ({ frames := 2, cells := 0, slots := 0, locals := 24 } : Room).cells ({ frames := 2, cells := 0, slots := 0, locals := 24 } : Room).slots) := by
  obtain ⟨e, ⟨u0, f0⟩, ⟨u1, f1⟩, ⟨u2, f2⟩, ⟨u3, f3⟩, ⟨u4, f4⟩⟩ := B
  rcases ref_cases r4 with rfl | ⟨x4, rfl⟩ <;> rcases ref_cases r6 with rfl | ⟨x6, rfl⟩
  · exact rm2_35 l Z a0 hw ws a1 p2 a3 a5 u0 u1 u2 u3 u4 h0 n0 Z0 e f0 g_a1 f1 f2 f3 f4
  · exact rm2_3 l Z a0 hw ws a1 p2 a3 a5 x6 u0 u1 u2 u3 u4 h0 n0 Z0 e f0 g_a1 f1 f2 f3 f4
  · exact rm2_5 l Z a0 hw ws a1 p2 a3 x4 a5 u0 u1 u2 u3 u4 h0 n0 Z0 e f0 g_a1 f1 f2 f3 f4
  · exact rm2_o l Z a0 hw ws a1 p2 a3 x4 a5 x6 u0 u1 u2 u3 u4 h0 n0 Z0 e f0 g_a1 f1 f2 f3 f4
theorem d6_0 : decode prog_34_method_1_code 0 = .ok (.aload_n 0, 1) := by decide +kernel
theorem d6_1 : decode prog_34_method_1_code 1 = .ok (.invokespecial 1, 3) := by decide +kernel
theorem d6_4 : decode prog_34_method_1_code 4 = .ok (.aload_n 0, 1) := by decide +kernel
theorem d6_5 : decode prog_34_method_1_code 5 = .ok (.lload_n 1, 1) := by decide +kernel
theorem d6_6 : decode prog_34_method_1_code 6 = .ok (.putfield 7, 3) := by decide +kernel
theorem d6_9 : decode prog_34_method_1_code 9 = .ok (.aload_n 0, 1) := by decide +kernel
theorem d6_10 : decode prog_34_method_1_code 10 = .ok (.aload_n 3, 1) := by decide +kernel
theorem d6_11 : decode prog_34_method_1_code 11 = .ok (.putfield 13, 3) := by decide +kernel
theorem d6_14 : decode prog_34_method_1_code 14 = .ok (.return_, 1) := by decide +kernel
theorem pn_6 : plainName "com/example/cell5/cell5/http/Reply$Streamed" = true := by first | (simp [plainName, overriddenIn]; done) | decide +kernel
theorem pd_6_2 : parseMethodDescriptor "()V" = some ⟨[], none⟩ := by decide +kernel
theorem ef_6_2 (m : MethodId) (x0 : Addr) (x1 : Int64) : entryFrame m #[(.ref x0), (.long x1), .null] 4 = mkF m 0 #[.val (.ref x0), .val (.long x1), .second, .val .null] [] := by first | (simp [entryFrame, mkF, argsToLocals, Value.category]; done) | rfl
set_option maxRecDepth 65536 in
set_option maxHeartbeats 40000000 in
theorem rm6 (l : Launch) (Z : State) (a0 : Array Value) (hw : ∀ d ∈ tables_1, d.before a0 Z = true) (ws : List Jvm.Cond) (a1 : Addr) (q2 : Int64) (u_length_a1 : Value) (u_bytes_a1 : Value) (h0 : Heap) (n0 : Nat) (Z0 : n0 ≤ h0.size) (E_a1 : Exa Z h0 a1 "com/example/cell5/cell5/http/Reply$Streamed") (F_length_a1 : Fld Z h0 a1 "com/example/cell5/cell5/http/Reply$Streamed" "length" "J" u_length_a1) (g_a1 : n0 ≤ a1) (F_bytes_a1 : Fld Z h0 a1 "com/example/cell5/cell5/http/Reply$Streamed" "bytes" "Ljava/io/InputStream;" u_bytes_a1) :
    MetFree l (⟨"com/example/cell5/cell5/http/Reply$Streamed", "<init>", "(JLjava/io/InputStream;)V"⟩ : MethodName) (head1 (Jvm.Cond.code (⟨"com/example/cell5/cell5/http/Reply$Streamed", "<init>", "(JLjava/io/InputStream;)V"⟩ : MethodName) prog_34_method_1_code 4 none :: ws) ({ frames := 2, cells := 0, slots := 0, locals := 24 } : Room)) (fun a U => a = #[(.ref a1), (.long q2), .null] ∧ Z.Warmed39 U.vm ∧ U.heap = h0) (fun _ _ _ _ _ => True) (fun _ U o U' => ∃ v L, o = .returned v ∧ QS Z a1 q2 h0 n0 v U'.heap L ∧ FrameEnd U o U' L ({ frames := 2, cells := 0, slots := 0, locals := 24 } : Room).cells ({ frames := 2, cells := 0, slots := 0, locals := 24 } : Room).slots) := by
  refine MetFree.of_bodySF (plainFor_of_name pn_6) hisR ?_
  intro p e s m args below meth c s₁ Bd hml0 hP hK
  obtain ⟨rfl, hZ, hh⟩ := hP
  have hx := Bd.exec
  have hby := Bd.bytes
  have hml : c.maxLocals = 4 := hml0
  have hown : s.vm.findClass "com/example/cell5/cell5/http/Reply$Streamed" = some m.cls := findClass_of_methodNamed Bd.named
  have hnm := (name_of_methodNamed Bd.named Bd.method).1
  have X0 : Stand p l e ({ frames := 2, cells := 0, slots := 0, locals := 24 } : Room) s m #[(.ref a1), (.long q2), .null] below meth c s₁ [] 0 0 := Stand.of_body Bd
  have e0 : s₁.heap = h0 := by rw [← hh, Bd.state]; rfl
  have N0 := Fr.nil n0
  have pre0 : ∀ t, Steps p.tables e below (s₁.setTop (mkF m 0 #[.val (.ref a1), .val (.long q2), .second, .val .null] [])) t → Steps p.tables e below (s₁.setTop (entryFrame m #[(.ref a1), (.long q2), .null] 4)) t := fun t k => castTop (ef_6_2 m a1 q2) k
  obtain ⟨_, _, ⟨T3, L3, k3, n3⟩, -, X3, ⟨Lc3, hQ3, l3, y3, z3⟩, st3⟩ := X0.specialBack hx (y := (⟨"java/lang/Record", "<init>", "()V"⟩ : MethodName)) rfl hown (mvT hZ (hw _ (List.mem_of_getElem? (i := 46) rfl))) (mvT hZ (hw _ (List.mem_of_getElem? (i := 19) rfl))) (mvT hZ (hw _ (List.mem_of_getElem? (i := 22) rfl))) (by decide) (backOf (W := 0) (rm3 l Z a0 hw [] a1 h0 n0 Z0) hZ (hw _ (List.mem_of_getElem? (i := 22) rfl)) (hw _ (List.mem_of_getElem? (i := 21) rfl)) (by decide) (by decide)) (g := (mkF m 1 #[.val (.ref a1), .val (.long q2), .second, .val .null] [(.ref a1)])) rfl (by rw [hml]; rfl) (Steps.refl _) (a := a1) (argsL := []) (rest := []) (lenOf pd_6_2 rfl) rfl (by show 2 * 0 + _ ≤ _; exact Nat.le_of_eq rfl) (hb hby d6_1) (fun _ _ => ⟨rfl, e0, (Nat.le_of_ble_eq_true rfl), (Nat.le_of_ble_eq_true rfl)⟩)
  dsimp only [Pt.U, Pt.locs, Pt.cells, Pt.slots] at X3 l3 y3 z3 st3 hQ3
  subst l3 y3 z3
  obtain ⟨rfl, N3q, h3q⟩ := hQ3
  have Kq3 : Keep h0 T3.heap [] := by rw [h3q]; exact Keep.refl _ _
  have Kc3 : Keep h0 T3.heap [a1] := by rw [h3q]; exact Keep.refl _ _
  have N3 := Fr.app N0 N3q
  obtain ⟨T4, h4, X4, e4, W4, st4⟩ := putF X3 hx hZ hown (host := "") (Or.inl (hw _ (List.mem_of_getElem? (i := 47) rfl))) Via.refl rfl (F_length_a1.keep Kq3 List.not_mem_nil) (E_a1.keep Kq3) (Or.inr ⟨(hw _ (List.mem_of_getElem? (i := 48) rfl)), rfl, hnm⟩) (hw _ (List.mem_of_getElem? (i := 41) rfl)) (ty := .long) (by decide) rfl rfl (g := (mkF m 6 #[.val (.ref a1), .val (.long q2), .second, .val .null] [(.long q2), (.ref a1)])) rfl rfl (hb hby d6_6)
  have Fw4 := (F_length_a1.keep Kq3 List.not_mem_nil).same W4
  have K4 : Keep h0 h4 [a1] := Kc3.wr W4 (Or.inl (List.mem_of_getElem? (i := 0) rfl))
  have N4 := Fr.snoc X4 N3 g_a1
  obtain ⟨T5, h5, X5, e5, W5, st5⟩ := putF X4 hx hZ hown (host := "") (Or.inl (hw _ (List.mem_of_getElem? (i := 49) rfl))) Via.refl e4 ((F_bytes_a1.keep Kq3 List.not_mem_nil).other W4 (Or.inr (slot_ne (Or.inr (hw _ (List.mem_of_getElem? (i := 50) rfl))) (Or.inr (hw _ (List.mem_of_getElem? (i := 48) rfl))) (by decide) (t := (.object "java/io/InputStream")) (t' := .long) (by decide) (by decide)))) ((E_a1.keep Kq3).wr W4) (Or.inr ⟨(hw _ (List.mem_of_getElem? (i := 50) rfl)), rfl, hnm⟩) (hw _ (List.mem_of_getElem? (i := 41) rfl)) (ty := (.object "java/io/InputStream")) (by decide) rfl rfl (g := (mkF m 11 #[.val (.ref a1), .val (.long q2), .second, .val .null] [.null, (.ref a1)])) rfl rfl (hb hby d6_11)
  have Fw5 := ((F_bytes_a1.keep Kq3 List.not_mem_nil).other W4 (Or.inr (slot_ne (Or.inr (hw _ (List.mem_of_getElem? (i := 50) rfl))) (Or.inr (hw _ (List.mem_of_getElem? (i := 48) rfl))) (by decide) (t := (.object "java/io/InputStream")) (t' := .long) (by decide) (by decide)))).same W5
  have K5 : Keep h0 h5 [a1] := K4.wr W5 (Or.inl (List.mem_of_getElem? (i := 0) rfl))
  have N5 := Fr.snoc X5 N4 g_a1
  obtain ⟨fs, hr, hrun, hended, hW, hsame⟩ := X5.leave (v := none) (fun _ => rfl)
  refine ⟨_, _, pre0 _ ?_, hrun, hended, _, _, rfl, ?_, ⟨_, rfl⟩, hW, hsame.mono (by decide) (by decide)⟩
  · show Steps p.tables e below (s₁.setTop (mkF m 0 #[.val (.ref a1), .val (.long q2), .second, .val .null] [])) _
    refine XS.aloadN X0.here hx rfl (hb hby d6_0) rfl rfl ?_
    show Steps p.tables e below (s₁.setTop (mkF m 1 #[.val (.ref a1), .val (.long q2), .second, .val .null] [(.ref a1)])) _
    refine st3.trans ?_
    show Steps p.tables e below (T3.setTop (mkF m 4 #[.val (.ref a1), .val (.long q2), .second, .val .null] [])) _
    refine XS.aloadN X3.here hx rfl (hb hby d6_4) rfl rfl ?_
    show Steps p.tables e below (T3.setTop (mkF m 5 #[.val (.ref a1), .val (.long q2), .second, .val .null] [(.ref a1)])) _
    refine XS.lloadN X3.here hx rfl (hb hby d6_5) rfl ?_
    show Steps p.tables e below (T3.setTop (mkF m 6 #[.val (.ref a1), .val (.long q2), .second, .val .null] [(.long q2), (.ref a1)])) _
    refine st4 _ ?_
    show Steps p.tables e below (T4.setTop (mkF m 9 #[.val (.ref a1), .val (.long q2), .second, .val .null] [])) _
    refine XS.aloadN X4.here hx rfl (hb hby d6_9) rfl rfl ?_
    show Steps p.tables e below (T4.setTop (mkF m 10 #[.val (.ref a1), .val (.long q2), .second, .val .null] [(.ref a1)])) _
    refine XS.aloadN X4.here hx rfl (hb hby d6_10) rfl rfl ?_
    show Steps p.tables e below (T4.setTop (mkF m 11 #[.val (.ref a1), .val (.long q2), .second, .val .null] [.null, (.ref a1)])) _
    refine st5 _ ?_
    show Steps p.tables e below (T5.setTop (mkF m 14 #[.val (.ref a1), .val (.long q2), .second, .val .null] [])) _
    exact X5.returnOut hx Bd.returns (hb hby d6_14) hr
  · show QS Z a1 q2 h0 n0 _ T5.heap _
    rw [e5]
    exact ⟨rfl, N5, K5, (((E_a1.keep Kq3).wr W4).wr W5), (Fw4.other W5 (Or.inr (slot_ne (Or.inr (hw _ (List.mem_of_getElem? (i := 48) rfl))) (Or.inr (hw _ (List.mem_of_getElem? (i := 50) rfl))) (by decide) (t := .long) (t' := (.object "java/io/InputStream")) (by decide) (by decide))))⟩
theorem d1_0 : decode prog_33_method_1_code 0 = .ok (.aload_n 0, 1) := by decide +kernel
theorem d1_1 : decode prog_33_method_1_code 1 = .ok (.iload_n 1, 1) := by decide +kernel
theorem d1_2 : decode prog_33_method_1_code 2 = .ok (.aload_n 2, 1) := by decide +kernel
theorem d1_3 : decode prog_33_method_1_code 3 = .ok (.aload_n 3, 1) := by decide +kernel
theorem d1_4 : decode prog_33_method_1_code 4 = .ok (.aload 4, 2) := by decide +kernel
theorem d1_6 : decode prog_33_method_1_code 6 = .ok (.aconst_null, 1) := by decide +kernel
theorem d1_7 : decode prog_33_method_1_code 7 = .ok (.invokespecial 28, 3) := by decide +kernel
theorem d1_10 : decode prog_33_method_1_code 10 = .ok (.return_, 1) := by decide +kernel
theorem pn_1 : plainName "com/example/cell5/cell5/http/Reply" = true := by first | (simp [plainName, overriddenIn]; done) | decide +kernel
theorem pd_1_1 : parseMethodDescriptor "(I[BLjava/lang/String;Ljava/lang/String;Lcom/example/cell5/cell5/http/Reply$Streamed;)V" = some ⟨[.int, (.array .byte), (.object "java/lang/String"), (.object "java/lang/String"), (.object "com/example/cell5/cell5/http/Reply$Streamed")], none⟩ := by decide +kernel
theorem ef_1 (m : MethodId) (x0 : Addr) (x1 : Int32) (x2 : Addr) (x3 : Addr) (x4 : Addr) : entryFrame m #[(.ref x0), (.int x1), (.ref x2), (.ref x3), (.ref x4)] 5 = mkF m 0 #[.val (.ref x0), .val (.int x1), .val (.ref x2), .val (.ref x3), .val (.ref x4)] [] := by first | (simp [entryFrame, mkF, argsToLocals, Value.category]; done) | rfl
set_option maxRecDepth 65536 in
set_option maxHeartbeats 40000000 in
theorem rm1_o (l : Launch) (Z : State) (a0 : Array Value) (hw : ∀ d ∈ tables_1, d.before a0 Z = true) (ws : List Jvm.Cond) (a1 : Addr) (p2 : Int32) (a3 : Addr) (a4 : Addr) (a5 : Addr) (h0 : Heap) (n0 : Nat) (Z0 : n0 ≤ h0.size) (B : RF Z h0 a1) (g_a1 : n0 ≤ a1) :
    MetFree l (⟨"com/example/cell5/cell5/http/Reply", "<init>", "(I[BLjava/lang/String;Ljava/lang/String;)V"⟩ : MethodName) (head1 (Jvm.Cond.code (⟨"com/example/cell5/cell5/http/Reply", "<init>", "(I[BLjava/lang/String;Ljava/lang/String;)V"⟩ : MethodName) prog_33_method_1_code 5 none :: ws) ({ frames := 3, cells := 0, slots := 0, locals := 41 } : Room)) (fun a U => a = #[(.ref a1), (.int p2), (.ref a3), (.ref a4), (.ref a5)] ∧ Z.Warmed39 U.vm ∧ U.heap = h0) (fun _ _ _ _ _ => True) (fun _ U o U' => ∃ v L, o = .returned v ∧ QR Z a1 a3 .null h0 n0 v U'.heap L ∧ FrameEnd U o U' L ({ frames := 3, cells := 0, slots := 0, locals := 41 } : Room).cells ({ frames := 3, cells := 0, slots := 0, locals := 41 } : Room).slots) := by
  refine MetFree.of_bodySF (plainFor_of_name pn_1) hisR ?_
  intro p e s m args below meth c s₁ Bd hml0 hP hK
  obtain ⟨rfl, hZ, hh⟩ := hP
  have hx := Bd.exec
  have hby := Bd.bytes
  have hml : c.maxLocals = 5 := hml0
  have hown : s.vm.findClass "com/example/cell5/cell5/http/Reply" = some m.cls := findClass_of_methodNamed Bd.named
  have hnm := (name_of_methodNamed Bd.named Bd.method).1
  have X0 : Stand p l e ({ frames := 3, cells := 0, slots := 0, locals := 41 } : Room) s m #[(.ref a1), (.int p2), (.ref a3), (.ref a4), (.ref a5)] below meth c s₁ [] 0 0 := Stand.of_body Bd
  have e0 : s₁.heap = h0 := by rw [← hh, Bd.state]; rfl
  have N0 := Fr.nil n0
  have pre0 : ∀ t, Steps p.tables e below (s₁.setTop (mkF m 0 #[.val (.ref a1), .val (.int p2), .val (.ref a3), .val (.ref a4), .val (.ref a5)] [])) t → Steps p.tables e below (s₁.setTop (entryFrame m #[(.ref a1), (.int p2), (.ref a3), (.ref a4), (.ref a5)] 5)) t := fun t k => castTop (ef_1 m a1 p2 a3 a4 a5) k
  obtain ⟨_, _, ⟨T6, L6, k6, n6⟩, -, X6, ⟨Lc6, hQ6, l6, y6, z6⟩, st6⟩ := X0.specialBack hx (y := (⟨"com/example/cell5/cell5/http/Reply", "<init>", "(I[BLjava/lang/String;Ljava/lang/String;Lcom/example/cell5/cell5/http/Reply$Streamed;)V"⟩ : MethodName)) rfl hown (mvT hZ (hw _ (List.mem_of_getElem? (i := 15) rfl))) (mvT hZ (hw _ (List.mem_of_getElem? (i := 16) rfl))) (mvT hZ (hw _ (List.mem_of_getElem? (i := 17) rfl))) (by decide) (backOf (W := 0) (rm2 l Z a0 hw [] a1 p2 a3 (.ref a4) a5 .null h0 n0 Z0 rfl rfl B g_a1) hZ (hw _ (List.mem_of_getElem? (i := 17) rfl)) (hw _ (List.mem_of_getElem? (i := 11) rfl)) (by decide) (by decide)) (g := (mkF m 7 #[.val (.ref a1), .val (.int p2), .val (.ref a3), .val (.ref a4), .val (.ref a5)] [.null, (.ref a5), (.ref a4), (.ref a3), (.int p2), (.ref a1)])) rfl (by rw [hml]; rfl) (Steps.refl _) (a := a1) (argsL := [(.int p2), (.ref a3), (.ref a4), (.ref a5), .null]) (rest := []) (lenOf pd_1_1 rfl) rfl (by show 2 * 0 + _ ≤ _; exact Nat.le_of_eq rfl) (hb hby d1_7) (fun _ _ => ⟨rfl, e0, (Nat.le_of_ble_eq_true rfl), (Nat.le_of_ble_eq_true rfl)⟩)
  dsimp only [Pt.U, Pt.locs, Pt.cells, Pt.slots] at X6 l6 y6 z6 st6 hQ6
  subst l6 y6 z6
  obtain ⟨rfl, N6q, K6q, B6q⟩ := hQ6
  have N6 := Fr.app N0 N6q
  obtain ⟨fs, hr, hrun, hended, hW, hsame⟩ := X6.leave (v := none) (fun _ => rfl)
  refine ⟨_, _, pre0 _ ?_, hrun, hended, _, _, rfl, ?_, ⟨_, rfl⟩, hW, hsame.mono (by decide) (by decide)⟩
  · show Steps p.tables e below (s₁.setTop (mkF m 0 #[.val (.ref a1), .val (.int p2), .val (.ref a3), .val (.ref a4), .val (.ref a5)] [])) _
    refine XS.aloadN X0.here hx rfl (hb hby d1_0) rfl rfl ?_
    show Steps p.tables e below (s₁.setTop (mkF m 1 #[.val (.ref a1), .val (.int p2), .val (.ref a3), .val (.ref a4), .val (.ref a5)] [(.ref a1)])) _
    refine XS.iloadN X0.here hx rfl (hb hby d1_1) rfl ?_
    show Steps p.tables e below (s₁.setTop (mkF m 2 #[.val (.ref a1), .val (.int p2), .val (.ref a3), .val (.ref a4), .val (.ref a5)] [(.int p2), (.ref a1)])) _
    refine XS.aloadN X0.here hx rfl (hb hby d1_2) rfl rfl ?_
    show Steps p.tables e below (s₁.setTop (mkF m 3 #[.val (.ref a1), .val (.int p2), .val (.ref a3), .val (.ref a4), .val (.ref a5)] [(.ref a3), (.int p2), (.ref a1)])) _
    refine XS.aloadN X0.here hx rfl (hb hby d1_3) rfl rfl ?_
    show Steps p.tables e below (s₁.setTop (mkF m 4 #[.val (.ref a1), .val (.int p2), .val (.ref a3), .val (.ref a4), .val (.ref a5)] [(.ref a4), (.ref a3), (.int p2), (.ref a1)])) _
    refine XS.aload X0.here hx rfl (hb hby d1_4) rfl rfl ?_
    show Steps p.tables e below (s₁.setTop (mkF m 6 #[.val (.ref a1), .val (.int p2), .val (.ref a3), .val (.ref a4), .val (.ref a5)] [(.ref a5), (.ref a4), (.ref a3), (.int p2), (.ref a1)])) _
    refine XS.aconstNull X0.here hx rfl (hb hby d1_6) ?_
    show Steps p.tables e below (s₁.setTop (mkF m 7 #[.val (.ref a1), .val (.int p2), .val (.ref a3), .val (.ref a4), .val (.ref a5)] [.null, (.ref a5), (.ref a4), (.ref a3), (.int p2), (.ref a1)])) _
    refine st6.trans ?_
    show Steps p.tables e below (T6.setTop (mkF m 10 #[.val (.ref a1), .val (.int p2), .val (.ref a3), .val (.ref a4), .val (.ref a5)] [])) _
    exact X6.returnOut hx Bd.returns (hb hby d1_10) hr
  · show QR Z a1 a3 .null h0 n0 _ T6.heap _
    exact ⟨rfl, N6, K6q, B6q⟩
theorem ef_1_3 (m : MethodId) (x0 : Addr) (x1 : Int32) (x2 : Addr) (x4 : Addr) : entryFrame m #[(.ref x0), (.int x1), (.ref x2), .null, (.ref x4)] 5 = mkF m 0 #[.val (.ref x0), .val (.int x1), .val (.ref x2), .val .null, .val (.ref x4)] [] := by first | (simp [entryFrame, mkF, argsToLocals, Value.category]; done) | rfl
set_option maxRecDepth 65536 in
set_option maxHeartbeats 40000000 in
theorem rm1_3 (l : Launch) (Z : State) (a0 : Array Value) (hw : ∀ d ∈ tables_1, d.before a0 Z = true) (ws : List Jvm.Cond) (a1 : Addr) (p2 : Int32) (a3 : Addr) (a4 : Addr) (h0 : Heap) (n0 : Nat) (Z0 : n0 ≤ h0.size) (B : RF Z h0 a1) (g_a1 : n0 ≤ a1) :
    MetFree l (⟨"com/example/cell5/cell5/http/Reply", "<init>", "(I[BLjava/lang/String;Ljava/lang/String;)V"⟩ : MethodName) (head1 (Jvm.Cond.code (⟨"com/example/cell5/cell5/http/Reply", "<init>", "(I[BLjava/lang/String;Ljava/lang/String;)V"⟩ : MethodName) prog_33_method_1_code 5 none :: ws) ({ frames := 3, cells := 0, slots := 0, locals := 41 } : Room)) (fun a U => a = #[(.ref a1), (.int p2), (.ref a3), .null, (.ref a4)] ∧ Z.Warmed39 U.vm ∧ U.heap = h0) (fun _ _ _ _ _ => True) (fun _ U o U' => ∃ v L, o = .returned v ∧ QR Z a1 a3 .null h0 n0 v U'.heap L ∧ FrameEnd U o U' L ({ frames := 3, cells := 0, slots := 0, locals := 41 } : Room).cells ({ frames := 3, cells := 0, slots := 0, locals := 41 } : Room).slots) := by
  refine MetFree.of_bodySF (plainFor_of_name pn_1) hisR ?_
  intro p e s m args below meth c s₁ Bd hml0 hP hK
  obtain ⟨rfl, hZ, hh⟩ := hP
  have hx := Bd.exec
  have hby := Bd.bytes
  have hml : c.maxLocals = 5 := hml0
  have hown : s.vm.findClass "com/example/cell5/cell5/http/Reply" = some m.cls := findClass_of_methodNamed Bd.named
  have hnm := (name_of_methodNamed Bd.named Bd.method).1
  have X0 : Stand p l e ({ frames := 3, cells := 0, slots := 0, locals := 41 } : Room) s m #[(.ref a1), (.int p2), (.ref a3), .null, (.ref a4)] below meth c s₁ [] 0 0 := Stand.of_body Bd
  have e0 : s₁.heap = h0 := by rw [← hh, Bd.state]; rfl
  have N0 := Fr.nil n0
  have pre0 : ∀ t, Steps p.tables e below (s₁.setTop (mkF m 0 #[.val (.ref a1), .val (.int p2), .val (.ref a3), .val .null, .val (.ref a4)] [])) t → Steps p.tables e below (s₁.setTop (entryFrame m #[(.ref a1), (.int p2), (.ref a3), .null, (.ref a4)] 5)) t := fun t k => castTop (ef_1_3 m a1 p2 a3 a4) k
  obtain ⟨_, _, ⟨T5, L5, k5, n5⟩, -, X5, ⟨Lc5, hQ5, l5, y5, z5⟩, st5⟩ := X0.specialBack hx (y := (⟨"com/example/cell5/cell5/http/Reply", "<init>", "(I[BLjava/lang/String;Ljava/lang/String;Lcom/example/cell5/cell5/http/Reply$Streamed;)V"⟩ : MethodName)) rfl hown (mvT hZ (hw _ (List.mem_of_getElem? (i := 15) rfl))) (mvT hZ (hw _ (List.mem_of_getElem? (i := 16) rfl))) (mvT hZ (hw _ (List.mem_of_getElem? (i := 17) rfl))) (by decide) (backOf (W := 0) (rm2 l Z a0 hw [] a1 p2 a3 .null a4 .null h0 n0 Z0 rfl rfl B g_a1) hZ (hw _ (List.mem_of_getElem? (i := 17) rfl)) (hw _ (List.mem_of_getElem? (i := 11) rfl)) (by decide) (by decide)) (g := (mkF m 7 #[.val (.ref a1), .val (.int p2), .val (.ref a3), .val .null, .val (.ref a4)] [.null, (.ref a4), .null, (.ref a3), (.int p2), (.ref a1)])) rfl (by rw [hml]; rfl) (Steps.refl _) (a := a1) (argsL := [(.int p2), (.ref a3), .null, (.ref a4), .null]) (rest := []) (lenOf pd_1_1 rfl) rfl (by show 2 * 0 + _ ≤ _; exact Nat.le_of_eq rfl) (hb hby d1_7) (fun _ _ => ⟨rfl, e0, (Nat.le_of_ble_eq_true rfl), (Nat.le_of_ble_eq_true rfl)⟩)
  dsimp only [Pt.U, Pt.locs, Pt.cells, Pt.slots] at X5 l5 y5 z5 st5 hQ5
  subst l5 y5 z5
  obtain ⟨rfl, N5q, K5q, B5q⟩ := hQ5
  have N5 := Fr.app N0 N5q
  obtain ⟨fs, hr, hrun, hended, hW, hsame⟩ := X5.leave (v := none) (fun _ => rfl)
  refine ⟨_, _, pre0 _ ?_, hrun, hended, _, _, rfl, ?_, ⟨_, rfl⟩, hW, hsame.mono (by decide) (by decide)⟩
  · show Steps p.tables e below (s₁.setTop (mkF m 0 #[.val (.ref a1), .val (.int p2), .val (.ref a3), .val .null, .val (.ref a4)] [])) _
    refine XS.aloadN X0.here hx rfl (hb hby d1_0) rfl rfl ?_
    show Steps p.tables e below (s₁.setTop (mkF m 1 #[.val (.ref a1), .val (.int p2), .val (.ref a3), .val .null, .val (.ref a4)] [(.ref a1)])) _
    refine XS.iloadN X0.here hx rfl (hb hby d1_1) rfl ?_
    show Steps p.tables e below (s₁.setTop (mkF m 2 #[.val (.ref a1), .val (.int p2), .val (.ref a3), .val .null, .val (.ref a4)] [(.int p2), (.ref a1)])) _
    refine XS.aloadN X0.here hx rfl (hb hby d1_2) rfl rfl ?_
    show Steps p.tables e below (s₁.setTop (mkF m 3 #[.val (.ref a1), .val (.int p2), .val (.ref a3), .val .null, .val (.ref a4)] [(.ref a3), (.int p2), (.ref a1)])) _
    refine XS.aloadN X0.here hx rfl (hb hby d1_3) rfl rfl ?_
    show Steps p.tables e below (s₁.setTop (mkF m 4 #[.val (.ref a1), .val (.int p2), .val (.ref a3), .val .null, .val (.ref a4)] [.null, (.ref a3), (.int p2), (.ref a1)])) _
    refine XS.aload X0.here hx rfl (hb hby d1_4) rfl rfl ?_
    show Steps p.tables e below (s₁.setTop (mkF m 6 #[.val (.ref a1), .val (.int p2), .val (.ref a3), .val .null, .val (.ref a4)] [(.ref a4), .null, (.ref a3), (.int p2), (.ref a1)])) _
    refine XS.aconstNull X0.here hx rfl (hb hby d1_6) ?_
    show Steps p.tables e below (s₁.setTop (mkF m 7 #[.val (.ref a1), .val (.int p2), .val (.ref a3), .val .null, .val (.ref a4)] [.null, (.ref a4), .null, (.ref a3), (.int p2), (.ref a1)])) _
    refine st5.trans ?_
    show Steps p.tables e below (T5.setTop (mkF m 10 #[.val (.ref a1), .val (.int p2), .val (.ref a3), .val .null, .val (.ref a4)] [])) _
    exact X5.returnOut hx Bd.returns (hb hby d1_10) hr
  · show QR Z a1 a3 .null h0 n0 _ T5.heap _
    exact ⟨rfl, N5, K5q, B5q⟩
theorem d5_0 : decode prog_33_method_5_code 0 = .ok (.new 8, 3) := by decide +kernel
theorem d5_3 : decode prog_33_method_5_code 3 = .ok (.dup, 1) := by decide +kernel
theorem d5_4 : decode prog_33_method_5_code 4 = .ok (.iload_n 0, 1) := by decide +kernel
theorem d5_5 : decode prog_33_method_5_code 5 = .ok (.iconst 0, 1) := by decide +kernel
theorem d5_6 : decode prog_33_method_5_code 6 = .ok (.newarray .byte, 2) := by decide +kernel
theorem d5_8 : decode prog_33_method_5_code 8 = .ok (.aconst_null, 1) := by decide +kernel
theorem d5_9 : decode prog_33_method_5_code 9 = .ok (.aload_n 1, 1) := by decide +kernel
theorem d5_10 : decode prog_33_method_5_code 10 = .ok (.new 36, 3) := by decide +kernel
theorem d5_13 : decode prog_33_method_5_code 13 = .ok (.dup, 1) := by decide +kernel
theorem d5_14 : decode prog_33_method_5_code 14 = .ok (.lload_n 2, 1) := by decide +kernel
theorem d5_15 : decode prog_33_method_5_code 15 = .ok (.aload 4, 2) := by decide +kernel
theorem d5_17 : decode prog_33_method_5_code 17 = .ok (.invokespecial 38, 3) := by decide +kernel
theorem d5_20 : decode prog_33_method_5_code 20 = .ok (.invokespecial 28, 3) := by decide +kernel
theorem d5_23 : decode prog_33_method_5_code 23 = .ok (.areturn, 1) := by decide +kernel
theorem pn_5 : plainName "com/example/cell5/cell5/http/Reply" = true := by first | (simp [plainName, overriddenIn]; done) | decide +kernel
theorem pd_5_4 : parseMethodDescriptor "(JLjava/io/InputStream;)V" = some ⟨[.long, (.object "java/io/InputStream")], none⟩ := by decide +kernel
theorem pd_5_1 : parseMethodDescriptor "(I[BLjava/lang/String;Ljava/lang/String;Lcom/example/cell5/cell5/http/Reply$Streamed;)V" = some ⟨[.int, (.array .byte), (.object "java/lang/String"), (.object "java/lang/String"), (.object "com/example/cell5/cell5/http/Reply$Streamed")], none⟩ := by decide +kernel
theorem ef_5_4 (m : MethodId) (x0 : Int32) (x1 : Addr) (x2 : Int64) : entryFrame m #[(.int x0), (.ref x1), (.long x2), .null] 5 = mkF m 0 #[.val (.int x0), .val (.ref x1), .val (.long x2), .second, .val .null] [] := by first | (simp [entryFrame, mkF, argsToLocals, Value.category]; done) | rfl
set_option maxRecDepth 65536 in
set_option maxHeartbeats 40000000 in
theorem rm5 (l : Launch) (Z : State) (a0 : Array Value) (hw : ∀ d ∈ tables_1, d.before a0 Z = true) (ws : List Jvm.Cond) (p1 : Int32) (a2 : Addr) (q3 : Int64) (h0 : Heap) (n0 : Nat) (Z0 : n0 ≤ h0.size) :
    MetFree l (⟨"com/example/cell5/cell5/http/Reply", "streamed", "(ILjava/lang/String;JLjava/io/InputStream;)Lcom/example/cell5/cell5/http/Reply;"⟩ : MethodName) (head1 (Jvm.Cond.code (⟨"com/example/cell5/cell5/http/Reply", "streamed", "(ILjava/lang/String;JLjava/io/InputStream;)Lcom/example/cell5/cell5/http/Reply;"⟩ : MethodName) prog_33_method_5_code 5 (some (.object "com/example/cell5/cell5/http/Reply")) :: ws) ({ frames := 3, cells := 3, slots := 7, locals := 46 } : Room)) (fun a U => a = #[(.int p1), (.ref a2), (.long q3), .null] ∧ Z.Warmed39 U.vm ∧ U.heap = h0) (fun _ _ _ _ _ => True) (fun _ U o U' => ∃ v L, o = .returned v ∧ QT Z q3 h0 n0 v U'.heap L ∧ FrameEnd U o U' L ({ frames := 3, cells := 3, slots := 7, locals := 46 } : Room).cells ({ frames := 3, cells := 3, slots := 7, locals := 46 } : Room).slots) := by
  refine MetFree.of_bodySF (plainFor_of_name pn_5) hisR ?_
  intro p e s m args below meth c s₁ Bd hml0 hP hK
  obtain ⟨rfl, hZ, hh⟩ := hP
  have hx := Bd.exec
  have hby := Bd.bytes
  have hml : c.maxLocals = 5 := hml0
  have hown : s.vm.findClass "com/example/cell5/cell5/http/Reply" = some m.cls := findClass_of_methodNamed Bd.named
  have hnm := (name_of_methodNamed Bd.named Bd.method).1
  have X0 : Stand p l e ({ frames := 3, cells := 3, slots := 7, locals := 46 } : Room) s m #[(.int p1), (.ref a2), (.long q3), .null] below meth c s₁ [] 0 0 := Stand.of_body Bd
  have e0 : s₁.heap = h0 := by rw [← hh, Bd.state]; rfl
  have N0 := Fr.nil n0
  have pre0 : ∀ t, Steps p.tables e below (s₁.setTop (mkF m 0 #[.val (.int p1), .val (.ref a2), .val (.long q3), .second, .val .null] [])) t → Steps p.tables e below (s₁.setTop (entryFrame m #[(.int p1), (.ref a2), (.long q3), .null] 5)) t := fun t k => castTop (ef_5_4 m p1 a2 q3) k
  obtain ⟨T4, h4, X4, e4, E4, A4, D4, -, st4⟩ := newO X0 hx hZ hown (hw _ (List.mem_of_getElem? (i := 39) rfl)) (hw _ (List.mem_of_getElem? (i := 10) rfl)) (hw _ (List.mem_of_getElem? (i := 11) rfl)) e0 (g := (mkF m 0 #[.val (.int p1), .val (.ref a2), .val (.long q3), .second, .val .null] [])) rfl (hb hby d5_0) (by decide) (by decide)
  obtain ⟨b4, g4⟩ : ∃ z, z = h0.size := ⟨_, rfl⟩
  rw [← g4] at A4 D4 st4
  have F_status_b4 : Fld Z h4 b4 "com/example/cell5/cell5/http/Reply" "status" "I" (.int (0 : Int32)) := D4 (Or.inr (hw _ (List.mem_of_getElem? (i := 27) rfl))) (ty := .int) (by decide)
  have F_body_b4 : Fld Z h4 b4 "com/example/cell5/cell5/http/Reply" "body" "[B" .null := D4 (Or.inr (hw _ (List.mem_of_getElem? (i := 29) rfl))) (ty := (.array .byte)) (by decide)
  have F_location_b4 : Fld Z h4 b4 "com/example/cell5/cell5/http/Reply" "location" "Ljava/lang/String;" .null := D4 (Or.inr (hw _ (List.mem_of_getElem? (i := 31) rfl))) (ty := (.object "java/lang/String")) (by decide)
  have F_type_b4 : Fld Z h4 b4 "com/example/cell5/cell5/http/Reply" "type" "Ljava/lang/String;" .null := D4 (Or.inr (hw _ (List.mem_of_getElem? (i := 33) rfl))) (ty := (.object "java/lang/String")) (by decide)
  have F_streamed_b4 : Fld Z h4 b4 "com/example/cell5/cell5/http/Reply" "streamed" "Lcom/example/cell5/cell5/http/Reply$Streamed;" .null := D4 (Or.inr (hw _ (List.mem_of_getElem? (i := 35) rfl))) (ty := (.object "com/example/cell5/cell5/http/Reply$Streamed")) (by decide)
  have E_b4 := A4
  have g_b4 : n0 ≤ b4 := Nat.le_trans Z0 (Nat.le_of_eq g4.symm)
  have sz_b4 : h0.size ≤ b4 := (Nat.le_trans (Keep.refl h0 []).1 (Nat.le_of_eq g4.symm))
  have K4 : Keep h0 h4 [] := (Keep.refl h0 []).ext E4
  obtain ⟨T5, h5, k5, X5, e5, E5, A5, st5⟩ := newP X4 hx hZ (hw _ (List.mem_of_getElem? (i := 0) rfl)) e4 (g := (mkF m 6 #[.val (.int p1), .val (.ref a2), .val (.long q3), .second, .val .null] [(.int (0 : Int32)), (.int p1), (.ref b4), (.ref b4)])) rfl (hb hby d5_6) rfl (by decide) (cap := 0) (by decide) (by decide) (by decide) (by decide)
  obtain ⟨b5, g5⟩ : ∃ z, z = h4.size := ⟨_, rfl⟩
  rw [← g5] at A5 st5
  have V_b5 := Arv.new A5 (by decide)
  have g_b5 : n0 ≤ b5 := Nat.le_trans (Nat.le_trans Z0 E4.1) (Nat.le_of_eq g5.symm)
  have sz_b5 : h0.size ≤ b5 := (Nat.le_trans K4.1 (Nat.le_of_eq g5.symm))
  have K5 : Keep h0 h5 [] := K4.ext E5
  obtain ⟨T6, h6, X6, e6, E6, A6, D6, -, st6⟩ := newO X5 hx hZ hown (hw _ (List.mem_of_getElem? (i := 40) rfl)) (hw _ (List.mem_of_getElem? (i := 41) rfl)) (hw _ (List.mem_of_getElem? (i := 42) rfl)) e5 (g := (mkF m 10 #[.val (.int p1), .val (.ref a2), .val (.long q3), .second, .val .null] [(.ref a2), .null, (.ref b5), (.int p1), (.ref b4), (.ref b4)])) rfl (hb hby d5_10) (by decide) (by decide)
  obtain ⟨b6, g6⟩ : ∃ z, z = h5.size := ⟨_, rfl⟩
  rw [← g6] at A6 D6 st6
  have F_length_b6 : Fld Z h6 b6 "com/example/cell5/cell5/http/Reply$Streamed" "length" "J" (.long (0 : Int64)) := D6 (Or.inr (hw _ (List.mem_of_getElem? (i := 48) rfl))) (ty := .long) (by decide)
  have F_bytes_b6 : Fld Z h6 b6 "com/example/cell5/cell5/http/Reply$Streamed" "bytes" "Ljava/io/InputStream;" .null := D6 (Or.inr (hw _ (List.mem_of_getElem? (i := 50) rfl))) (ty := (.object "java/io/InputStream")) (by decide)
  have E_b6 := A6
  have g_b6 : n0 ≤ b6 := Nat.le_trans (Nat.le_trans (Nat.le_trans Z0 E4.1) E5.1) (Nat.le_of_eq g6.symm)
  have sz_b6 : h0.size ≤ b6 := (Nat.le_trans K5.1 (Nat.le_of_eq g6.symm))
  have K6 : Keep h0 h6 [] := K5.ext E6
  obtain ⟨_, _, ⟨T7, L7, k7, n7⟩, -, X7, ⟨Lc7, hQ7, l7, y7, z7⟩, st7⟩ := X6.specialBack hx (y := (⟨"com/example/cell5/cell5/http/Reply$Streamed", "<init>", "(JLjava/io/InputStream;)V"⟩ : MethodName)) rfl hown (mvT hZ (hw _ (List.mem_of_getElem? (i := 43) rfl))) (mvT hZ (hw _ (List.mem_of_getElem? (i := 44) rfl))) (mvT hZ (hw _ (List.mem_of_getElem? (i := 45) rfl))) (by decide) (backOf (W := 7) (rm6 l Z a0 hw [] b6 q3 _ _ h6 n0 (Nat.le_trans Z0 K6.1) E_b6 F_length_b6 g_b6 F_bytes_b6) hZ (hw _ (List.mem_of_getElem? (i := 45) rfl)) (hw _ (List.mem_of_getElem? (i := 42) rfl)) (by decide) (by decide)) (g := (mkF m 17 #[.val (.int p1), .val (.ref a2), .val (.long q3), .second, .val .null] [.null, (.long q3), (.ref b6), (.ref b6), (.ref a2), .null, (.ref b5), (.int p1), (.ref b4), (.ref b4)])) rfl (by rw [hml]; rfl) (Steps.refl _) (a := b6) (argsL := [(.long q3), .null]) (rest := [(.ref b6), (.ref a2), .null, (.ref b5), (.int p1), (.ref b4), (.ref b4)]) (lenOf pd_5_4 rfl) rfl (by show 2 * 0 + _ ≤ _; exact Nat.le_of_eq rfl) (hb hby d5_17) (fun _ _ => ⟨rfl, e6, (Nat.le_of_ble_eq_true rfl), (Nat.le_of_ble_eq_true rfl)⟩)
  dsimp only [Pt.U, Pt.locs, Pt.cells, Pt.slots] at X7 l7 y7 z7 st7 hQ7
  subst l7 y7 z7
  obtain ⟨rfl, N7q, Kq7, B7q⟩ := hQ7
  have ne_ : b4 ≠ b6 := own_lt (E_b4.ext E5).lt g6
  have Bf : RF Z h4 b4 := ⟨E_b4, ⟨_, F_status_b4⟩, ⟨_, F_body_b4⟩, ⟨_, F_location_b4⟩, ⟨_, F_type_b4⟩, ⟨_, F_streamed_b4⟩⟩
  have Bg := ((Bf.ext E5).ext E6).keep Kq7 (own_nin ne_)
  have K7 : Keep h0 T7.heap [] := K6.trans Kq7 (fun x hx => by cases List.mem_singleton.mp hx; exact Or.inr sz_b6)
  have N7 := Fr.app N0 N7q
  obtain ⟨_, _, ⟨T8, L8, k8, n8⟩, -, X8, ⟨Lc8, hQ8, l8, y8, z8⟩, st8⟩ := X7.specialBack hx (y := (⟨"com/example/cell5/cell5/http/Reply", "<init>", "(I[BLjava/lang/String;Ljava/lang/String;Lcom/example/cell5/cell5/http/Reply$Streamed;)V"⟩ : MethodName)) rfl hown (mvT hZ (hw _ (List.mem_of_getElem? (i := 15) rfl))) (mvT hZ (hw _ (List.mem_of_getElem? (i := 16) rfl))) (mvT hZ (hw _ (List.mem_of_getElem? (i := 17) rfl))) (by decide) (backOf (W := 1) (rm2 l Z a0 hw [] b4 p1 b5 .null a2 (.ref b6) T7.heap n0 (Nat.le_trans Z0 K7.1) rfl rfl Bg g_b4) hZ (hw _ (List.mem_of_getElem? (i := 17) rfl)) (hw _ (List.mem_of_getElem? (i := 11) rfl)) (by decide) (by decide)) (g := (mkF m 20 #[.val (.int p1), .val (.ref a2), .val (.long q3), .second, .val .null] [(.ref b6), (.ref a2), .null, (.ref b5), (.int p1), (.ref b4), (.ref b4)])) rfl (by rw [hml]; rfl) (Steps.refl _) (a := b4) (argsL := [(.int p1), (.ref b5), .null, (.ref a2), (.ref b6)]) (rest := [(.ref b4)]) (lenOf pd_5_1 rfl) rfl (by show 2 * 0 + _ ≤ _; exact Nat.le_of_eq rfl) (hb hby d5_20) (fun _ _ => ⟨rfl, rfl, (Nat.le_of_ble_eq_true rfl), (Nat.le_of_ble_eq_true rfl)⟩)
  dsimp only [Pt.U, Pt.locs, Pt.cells, Pt.slots] at X8 l8 y8 z8 st8 hQ8
  subst l8 y8 z8
  obtain ⟨rfl, N8q, Kq8, B8q⟩ := hQ8
  have K8 : Keep h0 T8.heap [] := K7.trans Kq8 (fun x hx => by cases List.mem_singleton.mp hx; exact Or.inr sz_b4)
  have N8 := Fr.app N7 N8q
  obtain ⟨fs, hr, hrun, hended, hW, hsame⟩ := X8.leave (v := some (.ref b4)) (fun h => by rw [Bd.returns] at h; cases h)
  refine ⟨_, _, pre0 _ ?_, hrun, hended, _, _, rfl, ?_, ⟨_, rfl⟩, hW, hsame.mono (by decide) (by decide)⟩
  · show Steps p.tables e below (s₁.setTop (mkF m 0 #[.val (.int p1), .val (.ref a2), .val (.long q3), .second, .val .null] [])) _
    refine st4 _ ?_
    show Steps p.tables e below (T4.setTop (mkF m 3 #[.val (.int p1), .val (.ref a2), .val (.long q3), .second, .val .null] [(.ref b4)])) _
    refine XS.dup X4.here hx rfl (hb hby d5_3) rfl rfl ?_
    show Steps p.tables e below (T4.setTop (mkF m 4 #[.val (.int p1), .val (.ref a2), .val (.long q3), .second, .val .null] [(.ref b4), (.ref b4)])) _
    refine XS.iloadN X4.here hx rfl (hb hby d5_4) rfl ?_
    show Steps p.tables e below (T4.setTop (mkF m 5 #[.val (.int p1), .val (.ref a2), .val (.long q3), .second, .val .null] [(.int p1), (.ref b4), (.ref b4)])) _
    refine XS.iconst X4.here hx rfl (hb hby d5_5) ?_
    show Steps p.tables e below (T4.setTop (mkF m 6 #[.val (.int p1), .val (.ref a2), .val (.long q3), .second, .val .null] [(.int (0 : Int32)), (.int p1), (.ref b4), (.ref b4)])) _
    refine st5 _ ?_
    show Steps p.tables e below (T5.setTop (mkF m 8 #[.val (.int p1), .val (.ref a2), .val (.long q3), .second, .val .null] [(.ref b5), (.int p1), (.ref b4), (.ref b4)])) _
    refine XS.aconstNull X5.here hx rfl (hb hby d5_8) ?_
    show Steps p.tables e below (T5.setTop (mkF m 9 #[.val (.int p1), .val (.ref a2), .val (.long q3), .second, .val .null] [.null, (.ref b5), (.int p1), (.ref b4), (.ref b4)])) _
    refine XS.aloadN X5.here hx rfl (hb hby d5_9) rfl rfl ?_
    show Steps p.tables e below (T5.setTop (mkF m 10 #[.val (.int p1), .val (.ref a2), .val (.long q3), .second, .val .null] [(.ref a2), .null, (.ref b5), (.int p1), (.ref b4), (.ref b4)])) _
    refine st6 _ ?_
    show Steps p.tables e below (T6.setTop (mkF m 13 #[.val (.int p1), .val (.ref a2), .val (.long q3), .second, .val .null] [(.ref b6), (.ref a2), .null, (.ref b5), (.int p1), (.ref b4), (.ref b4)])) _
    refine XS.dup X6.here hx rfl (hb hby d5_13) rfl rfl ?_
    show Steps p.tables e below (T6.setTop (mkF m 14 #[.val (.int p1), .val (.ref a2), .val (.long q3), .second, .val .null] [(.ref b6), (.ref b6), (.ref a2), .null, (.ref b5), (.int p1), (.ref b4), (.ref b4)])) _
    refine XS.lloadN X6.here hx rfl (hb hby d5_14) rfl ?_
    show Steps p.tables e below (T6.setTop (mkF m 15 #[.val (.int p1), .val (.ref a2), .val (.long q3), .second, .val .null] [(.long q3), (.ref b6), (.ref b6), (.ref a2), .null, (.ref b5), (.int p1), (.ref b4), (.ref b4)])) _
    refine XS.aload X6.here hx rfl (hb hby d5_15) rfl rfl ?_
    show Steps p.tables e below (T6.setTop (mkF m 17 #[.val (.int p1), .val (.ref a2), .val (.long q3), .second, .val .null] [.null, (.long q3), (.ref b6), (.ref b6), (.ref a2), .null, (.ref b5), (.int p1), (.ref b4), (.ref b4)])) _
    refine st7.trans ?_
    show Steps p.tables e below (T7.setTop (mkF m 20 #[.val (.int p1), .val (.ref a2), .val (.long q3), .second, .val .null] [(.ref b6), (.ref a2), .null, (.ref b5), (.int p1), (.ref b4), (.ref b4)])) _
    refine st8.trans ?_
    show Steps p.tables e below (T8.setTop (mkF m 23 #[.val (.int p1), .val (.ref a2), .val (.long q3), .second, .val .null] [(.ref b4)])) _
    jvm_step X8.here [X8.here.top, hx, (hb hby d5_23), X8.method', Bd.returns, Value.isRef, FieldType.isReference]
    first | (intro acts; rw [hr _ acts rfl rfl rfl]) | rw [hr _ _ rfl rfl rfl]
    exact Steps.refl _
  · show QT Z q3 h0 n0 _ T8.heap _
    exact ⟨b4, b6, b5, rfl, N8, K8, B8q, B7q.keep Kq8 (own_nin ne_.symm)⟩
theorem d8_0 : decode prog_34_method_5_code 0 = .ok (.aload_n 0, 1) := by decide +kernel
theorem d8_1 : decode prog_34_method_5_code 1 = .ok (.getfield 7, 3) := by decide +kernel
theorem d8_4 : decode prog_34_method_5_code 4 = .ok (.lreturn, 1) := by decide +kernel
theorem pn_8 : plainName "com/example/cell5/cell5/http/Reply$Streamed" = true := by first | (simp [plainName, overriddenIn]; done) | decide +kernel
theorem ef_8 (m : MethodId) (x0 : Addr) : entryFrame m #[(.ref x0)] 1 = mkF m 0 #[.val (.ref x0)] [] := by first | (simp [entryFrame, mkF, argsToLocals, Value.category]; done) | rfl
set_option maxRecDepth 65536 in
set_option maxHeartbeats 40000000 in
theorem rm8 (l : Launch) (Z : State) (a0 : Array Value) (hw : ∀ d ∈ tables_1, d.before a0 Z = true) (ws : List Jvm.Cond) (a1 : Addr) (w2 : Int64) (h0 : Heap) (n0 : Nat) (Z0 : n0 ≤ h0.size) (F_length_a1 : Fld Z h0 a1 "com/example/cell5/cell5/http/Reply$Streamed" "length" "J" (.long w2)) :
    MetFree l (⟨"com/example/cell5/cell5/http/Reply$Streamed", "length", "()J"⟩ : MethodName) (head1 (Jvm.Cond.code (⟨"com/example/cell5/cell5/http/Reply$Streamed", "length", "()J"⟩ : MethodName) prog_34_method_5_code 1 (some .long) :: ws) ({ frames := 0, cells := 0, slots := 0, locals := 0 } : Room)) (fun a U => a = #[(.ref a1)] ∧ Z.Warmed39 U.vm ∧ U.heap = h0) (fun _ _ _ _ _ => True) (fun _ U o U' => ∃ v L, o = .returned v ∧ QV (some (.long w2)) h0 n0 v U'.heap L ∧ FrameEnd U o U' L ({ frames := 0, cells := 0, slots := 0, locals := 0 } : Room).cells ({ frames := 0, cells := 0, slots := 0, locals := 0 } : Room).slots) := by
  refine MetFree.of_bodySF (plainFor_of_name pn_8) hisR ?_
  intro p e s m args below meth c s₁ Bd hml0 hP hK
  obtain ⟨rfl, hZ, hh⟩ := hP
  have hx := Bd.exec
  have hby := Bd.bytes
  have hml : c.maxLocals = 1 := hml0
  have hown : s.vm.findClass "com/example/cell5/cell5/http/Reply$Streamed" = some m.cls := findClass_of_methodNamed Bd.named
  have hnm := (name_of_methodNamed Bd.named Bd.method).1
  have X0 : Stand p l e ({ frames := 0, cells := 0, slots := 0, locals := 0 } : Room) s m #[(.ref a1)] below meth c s₁ [] 0 0 := Stand.of_body Bd
  have e0 : s₁.heap = h0 := by rw [← hh, Bd.state]; rfl
  have N0 := Fr.nil n0
  have pre0 : ∀ t, Steps p.tables e below (s₁.setTop (mkF m 0 #[.val (.ref a1)] [])) t → Steps p.tables e below (s₁.setTop (entryFrame m #[(.ref a1)] 1)) t := fun t k => castTop (ef_8 m a1) k
  obtain ⟨T3, X3, e3, st3⟩ := getF X0 hx hZ hown (host := "") (Or.inl (hw _ (List.mem_of_getElem? (i := 47) rfl))) Via.refl e0 F_length_a1 (g := (mkF m 1 #[.val (.ref a1)] [(.ref a1)])) rfl rfl (hb hby d8_1)
  obtain ⟨fs, hr, hrun, hended, hW, hsame⟩ := X3.leave (v := some (.long w2)) (fun h => by rw [Bd.returns] at h; cases h)
  refine ⟨_, _, pre0 _ ?_, hrun, hended, _, _, rfl, ?_, ⟨_, rfl⟩, hW, hsame.mono (by decide) (by decide)⟩
  · show Steps p.tables e below (s₁.setTop (mkF m 0 #[.val (.ref a1)] [])) _
    refine XS.aloadN X0.here hx rfl (hb hby d8_0) rfl rfl ?_
    show Steps p.tables e below (s₁.setTop (mkF m 1 #[.val (.ref a1)] [(.ref a1)])) _
    refine st3 _ ?_
    show Steps p.tables e below (T3.setTop (mkF m 4 #[.val (.ref a1)] [(.long w2)])) _
    exact retJ X3 hx Bd.returns (hb hby d8_4) hr
  · show QV (some (.long w2)) h0 n0 _ T3.heap _
    rw [e3]
    exact ⟨rfl, N0, rfl⟩
theorem d7_0 : decode prog_33_method_6_code 0 = .ok (.aload_n 0, 1) := by decide +kernel
theorem d7_1 : decode prog_33_method_6_code 1 = .ok (.getfield 24, 3) := by decide +kernel
theorem d7_4 : decode prog_33_method_6_code 4 = .ok (.ifnonnull 12, 3) := by decide +kernel
theorem d7_7 : decode prog_33_method_6_code 7 = .ok (.aload_n 0, 1) := by decide +kernel
theorem d7_8 : decode prog_33_method_6_code 8 = .ok (.getfield 13, 3) := by decide +kernel
theorem d7_11 : decode prog_33_method_6_code 11 = .ok (.arraylength, 1) := by decide +kernel
theorem d7_12 : decode prog_33_method_6_code 12 = .ok (.i2l, 1) := by decide +kernel
theorem d7_13 : decode prog_33_method_6_code 13 = .ok (.goto 10, 3) := by decide +kernel
theorem d7_23 : decode prog_33_method_6_code 23 = .ok (.lreturn, 1) := by decide +kernel
theorem pn_7 : plainName "com/example/cell5/cell5/http/Reply" = true := by first | (simp [plainName, overriddenIn]; done) | decide +kernel
theorem ef_7 (m : MethodId) (x0 : Addr) : entryFrame m #[(.ref x0)] 1 = mkF m 0 #[.val (.ref x0)] [] := by first | (simp [entryFrame, mkF, argsToLocals, Value.category]; done) | rfl
set_option maxRecDepth 65536 in
set_option maxHeartbeats 40000000 in
theorem rm7_n (l : Launch) (Z : State) (a0 : Array Value) (hw : ∀ d ∈ tables_1, d.before a0 Z = true) (ws : List Jvm.Cond) (a1 : Addr) (w3 : Addr) (cl_w3 : Cell) (z_w3 : Int32) (h0 : Heap) (n0 : Nat) (Z0 : n0 ≤ h0.size) (F_streamed_a1 : Fld Z h0 a1 "com/example/cell5/cell5/http/Reply" "streamed" "Lcom/example/cell5/cell5/http/Reply$Streamed;" .null) (F_body_a1 : Fld Z h0 a1 "com/example/cell5/cell5/http/Reply" "body" "[B" (.ref w3)) (Ar_w3 : Arr Z h0 w3 cl_w3 .byte) (S_w3 : cl_w3.slots.size = z_w3.toNatClampNeg) (N_w3 : ¬ z_w3 < 0) :
    MetFree l (⟨"com/example/cell5/cell5/http/Reply", "length", "()J"⟩ : MethodName) (head1 (Jvm.Cond.code (⟨"com/example/cell5/cell5/http/Reply", "length", "()J"⟩ : MethodName) prog_33_method_6_code 1 (some .long) :: ws) ({ frames := 0, cells := 0, slots := 0, locals := 0 } : Room)) (fun a U => a = #[(.ref a1)] ∧ Z.Warmed39 U.vm ∧ U.heap = h0) (fun _ _ _ _ _ => True) (fun _ U o U' => ∃ v L, o = .returned v ∧ QV (some (.long (z_w3.toInt64))) h0 n0 v U'.heap L ∧ FrameEnd U o U' L ({ frames := 0, cells := 0, slots := 0, locals := 0 } : Room).cells ({ frames := 0, cells := 0, slots := 0, locals := 0 } : Room).slots) := by
  refine MetFree.of_bodySF (plainFor_of_name pn_7) hisR ?_
  intro p e s m args below meth c s₁ Bd hml0 hP hK
  obtain ⟨rfl, hZ, hh⟩ := hP
  have hx := Bd.exec
  have hby := Bd.bytes
  have hml : c.maxLocals = 1 := hml0
  have hown : s.vm.findClass "com/example/cell5/cell5/http/Reply" = some m.cls := findClass_of_methodNamed Bd.named
  have hnm := (name_of_methodNamed Bd.named Bd.method).1
  have X0 : Stand p l e ({ frames := 0, cells := 0, slots := 0, locals := 0 } : Room) s m #[(.ref a1)] below meth c s₁ [] 0 0 := Stand.of_body Bd
  have e0 : s₁.heap = h0 := by rw [← hh, Bd.state]; rfl
  have N0 := Fr.nil n0
  have pre0 : ∀ t, Steps p.tables e below (s₁.setTop (mkF m 0 #[.val (.ref a1)] [])) t → Steps p.tables e below (s₁.setTop (entryFrame m #[(.ref a1)] 1)) t := fun t k => castTop (ef_7 m a1) k
  obtain ⟨T2, X2, e2, st2⟩ := getF X0 hx hZ hown (host := "") (Or.inl (hw _ (List.mem_of_getElem? (i := 34) rfl))) Via.refl e0 F_streamed_a1 (g := (mkF m 1 #[.val (.ref a1)] [(.ref a1)])) rfl rfl (hb hby d7_1)
  obtain ⟨T4, X4, e4, st4⟩ := getF X2 hx hZ hown (host := "") (Or.inl (hw _ (List.mem_of_getElem? (i := 28) rfl))) Via.refl e2 F_body_a1 (g := (mkF m 8 #[.val (.ref a1)] [(.ref a1)])) rfl rfl (hb hby d7_8)
  obtain ⟨fs, hr, hrun, hended, hW, hsame⟩ := X4.leave (v := some (.long (z_w3.toInt64))) (fun h => by rw [Bd.returns] at h; cases h)
  refine ⟨_, _, pre0 _ ?_, hrun, hended, _, _, rfl, ?_, ⟨_, rfl⟩, hW, hsame.mono (by decide) (by decide)⟩
  · show Steps p.tables e below (s₁.setTop (mkF m 0 #[.val (.ref a1)] [])) _
    refine XS.aloadN X0.here hx rfl (hb hby d7_0) rfl rfl ?_
    show Steps p.tables e below (s₁.setTop (mkF m 1 #[.val (.ref a1)] [(.ref a1)])) _
    refine st2 _ ?_
    show Steps p.tables e below (T2.setTop (mkF m 4 #[.val (.ref a1)] [.null])) _
    refine XS.ifnonnullNo X2.here hx rfl (hb hby d7_4) rfl ?_
    show Steps p.tables e below (T2.setTop (mkF m 7 #[.val (.ref a1)] [])) _
    refine XS.aloadN X2.here hx rfl (hb hby d7_7) rfl rfl ?_
    show Steps p.tables e below (T2.setTop (mkF m 8 #[.val (.ref a1)] [(.ref a1)])) _
    refine st4 _ ?_
    show Steps p.tables e below (T4.setTop (mkF m 11 #[.val (.ref a1)] [(.ref w3)])) _
    refine X4.arraylength hx (by rw [e4]; exact Ar_w3.1) (State.isArrayOf_alike hZ.alike Ar_w3.2.1) (g := (mkF m 11 #[.val (.ref a1)] [(.ref w3)])) rfl rfl (hb hby d7_11) _ ?_
    rw [len_of S_w3 N_w3]
    show Steps p.tables e below (T4.setTop (mkF m 12 #[.val (.ref a1)] [(.int z_w3)])) _
    refine XS.i2l X4.here hx rfl (hb hby d7_12) rfl ?_
    show Steps p.tables e below (T4.setTop (mkF m 13 #[.val (.ref a1)] [(.long (z_w3.toInt64))])) _
    refine XS.goto X4.here hx rfl (pc0 := 13) (pc' := 23) rfl (hb hby d7_13) (by decide) (by decide) ?_
    show Steps p.tables e below (T4.setTop (mkF m 23 #[.val (.ref a1)] [(.long (z_w3.toInt64))])) _
    exact retJ X4 hx Bd.returns (hb hby d7_23) hr
  · show QV (some (.long (z_w3.toInt64))) h0 n0 _ T4.heap _
    rw [e4]
    exact ⟨rfl, N0, rfl⟩
theorem d7_16 : decode prog_33_method_6_code 16 = .ok (.aload_n 0, 1) := by decide +kernel
theorem d7_17 : decode prog_33_method_6_code 17 = .ok (.getfield 24, 3) := by decide +kernel
theorem d7_20 : decode prog_33_method_6_code 20 = .ok (.invokevirtual 41, 3) := by decide +kernel
theorem pd_7_5 : parseMethodDescriptor "()J" = some ⟨[], some .long⟩ := by decide +kernel
set_option maxRecDepth 65536 in
set_option maxHeartbeats 40000000 in
theorem rm7_s (l : Launch) (Z : State) (a0 : Array Value) (hw : ∀ d ∈ tables_1, d.before a0 Z = true) (ws : List Jvm.Cond) (a1 : Addr) (w2 : Addr) (h0 : Heap) (n0 : Nat) (Z0 : n0 ≤ h0.size) (F_streamed_a1 : Fld Z h0 a1 "com/example/cell5/cell5/http/Reply" "streamed" "Lcom/example/cell5/cell5/http/Reply$Streamed;" (.ref w2)) (q : Int64) (D : SD Z h0 w2 q) :
    MetFree l (⟨"com/example/cell5/cell5/http/Reply", "length", "()J"⟩ : MethodName) (head1 (Jvm.Cond.code (⟨"com/example/cell5/cell5/http/Reply", "length", "()J"⟩ : MethodName) prog_33_method_6_code 1 (some .long) :: ws) ({ frames := 1, cells := 0, slots := 0, locals := 12 } : Room)) (fun a U => a = #[(.ref a1)] ∧ Z.Warmed39 U.vm ∧ U.heap = h0) (fun _ _ _ _ _ => True) (fun _ U o U' => ∃ v L, o = .returned v ∧ QV (some (.long q)) h0 n0 v U'.heap L ∧ FrameEnd U o U' L ({ frames := 1, cells := 0, slots := 0, locals := 12 } : Room).cells ({ frames := 1, cells := 0, slots := 0, locals := 12 } : Room).slots) := by
  refine MetFree.of_bodySF (plainFor_of_name pn_7) hisR ?_
  intro p e s m args below meth c s₁ Bd hml0 hP hK
  obtain ⟨rfl, hZ, hh⟩ := hP
  have hx := Bd.exec
  have hby := Bd.bytes
  have hml : c.maxLocals = 1 := hml0
  have hown : s.vm.findClass "com/example/cell5/cell5/http/Reply" = some m.cls := findClass_of_methodNamed Bd.named
  have hnm := (name_of_methodNamed Bd.named Bd.method).1
  have X0 : Stand p l e ({ frames := 1, cells := 0, slots := 0, locals := 12 } : Room) s m #[(.ref a1)] below meth c s₁ [] 0 0 := Stand.of_body Bd
  have e0 : s₁.heap = h0 := by rw [← hh, Bd.state]; rfl
  have N0 := Fr.nil n0
  have pre0 : ∀ t, Steps p.tables e below (s₁.setTop (mkF m 0 #[.val (.ref a1)] [])) t → Steps p.tables e below (s₁.setTop (entryFrame m #[(.ref a1)] 1)) t := fun t k => castTop (ef_7 m a1) k
  obtain ⟨T3, X3, e3, st3⟩ := getF X0 hx hZ hown (host := "") (Or.inl (hw _ (List.mem_of_getElem? (i := 34) rfl))) Via.refl e0 F_streamed_a1 (g := (mkF m 1 #[.val (.ref a1)] [(.ref a1)])) rfl rfl (hb hby d7_1)
  obtain ⟨T4, X4, e4, st4⟩ := getF X3 hx hZ hown (host := "") (Or.inl (hw _ (List.mem_of_getElem? (i := 34) rfl))) Via.refl e3 F_streamed_a1 (g := (mkF m 17 #[.val (.ref a1)] [(.ref a1)])) rfl rfl (hb hby d7_17)
  obtain ⟨cq5, kq5, q5a, q5b, q5c⟩ := isOf hZ e4 D.1
  obtain ⟨_, _, ⟨T5, L5, k5, n5⟩, -, X5, ⟨Lc5, hQ5, l5, y5, z5⟩, st5⟩ := X4.virtualBack hx (y := (⟨"com/example/cell5/cell5/http/Reply$Streamed", "length", "()J"⟩ : MethodName)) (z := (⟨"com/example/cell5/cell5/http/Reply$Streamed", "length", "()J"⟩ : MethodName)) hown (mvT hZ (hw _ (List.mem_of_getElem? (i := 59) rfl))) (mvT hZ (hw _ (List.mem_of_getElem? (i := 60) rfl))) (notFace_of_selects (args := #[]) (mvT hZ (hw _ (List.mem_of_getElem? (i := 62) rfl)))) (mvT hZ (hw _ (List.mem_of_getElem? (i := 62) rfl))) (mvT hZ (hw _ (List.mem_of_getElem? (i := 61) rfl))) (by decide) (backOf (W := 0) (rm8 l Z a0 hw [] w2 q h0 n0 Z0 D.2) hZ (hw _ (List.mem_of_getElem? (i := 63) rfl)) (hw _ (List.mem_of_getElem? (i := 42) rfl)) (by decide) (by decide)) q5a q5c (g := (mkF m 20 #[.val (.ref a1)] [(.ref w2)])) rfl (by rw [hml]; rfl) (Steps.refl _) (argsL := []) (rest := []) (lenOf pd_7_5 rfl) rfl (by show 2 * 0 + _ ≤ _; exact Nat.le_of_eq rfl) (hb hby d7_20) (fun _ _ => ⟨rfl, e4, (Nat.le_of_ble_eq_true rfl), (Nat.le_of_ble_eq_true rfl)⟩)
  dsimp only [Pt.U, Pt.locs, Pt.cells, Pt.slots] at X5 l5 y5 z5 st5 hQ5
  subst l5 y5 z5
  obtain ⟨rfl, N5q, h5q⟩ := hQ5
  have N5 := Fr.app N0 N5q
  obtain ⟨fs, hr, hrun, hended, hW, hsame⟩ := X5.leave (v := some (.long q)) (fun h => by rw [Bd.returns] at h; cases h)
  refine ⟨_, _, pre0 _ ?_, hrun, hended, _, _, rfl, ?_, ⟨_, rfl⟩, hW, hsame.mono (by decide) (by decide)⟩
  · show Steps p.tables e below (s₁.setTop (mkF m 0 #[.val (.ref a1)] [])) _
    refine XS.aloadN X0.here hx rfl (hb hby d7_0) rfl rfl ?_
    show Steps p.tables e below (s₁.setTop (mkF m 1 #[.val (.ref a1)] [(.ref a1)])) _
    refine st3 _ ?_
    show Steps p.tables e below (T3.setTop (mkF m 4 #[.val (.ref a1)] [(.ref w2)])) _
    refine XS.ifnonnullYes X3.here hx rfl (pc0 := 4) (pc' := 16) rfl (hb hby d7_4) rfl (by decide) (by decide) ?_
    show Steps p.tables e below (T3.setTop (mkF m 16 #[.val (.ref a1)] [])) _
    refine XS.aloadN X3.here hx rfl (hb hby d7_16) rfl rfl ?_
    show Steps p.tables e below (T3.setTop (mkF m 17 #[.val (.ref a1)] [(.ref a1)])) _
    refine st4 _ ?_
    show Steps p.tables e below (T4.setTop (mkF m 20 #[.val (.ref a1)] [(.ref w2)])) _
    refine st5.trans ?_
    show Steps p.tables e below (T5.setTop (mkF m 23 #[.val (.ref a1)] [(.long q)])) _
    exact retJ X5 hx Bd.returns (hb hby d7_23) hr
  · show QV (some (.long q)) h0 n0 _ T5.heap _
    exact ⟨rfl, N5, h5q⟩
theorem pd_0_0 : parseMethodDescriptor "(I[BLjava/lang/String;Ljava/lang/String;)V" = some ⟨[.int, (.array .byte), (.object "java/lang/String"), (.object "java/lang/String")], none⟩ := by decide +kernel
theorem pd_0_3 : parseMethodDescriptor "(ILjava/lang/String;JLjava/io/InputStream;)Lcom/example/cell5/cell5/http/Reply;" = some ⟨[.int, (.object "java/lang/String"), .long, (.object "java/io/InputStream")], some (.object "com/example/cell5/cell5/http/Reply")⟩ := by decide +kernel
theorem pd_0_4 : parseMethodDescriptor "(JLjava/io/InputStream;)V" = some ⟨[.long, (.object "java/io/InputStream")], none⟩ := by decide +kernel
theorem pd_0_1 : parseMethodDescriptor "(I[BLjava/lang/String;Ljava/lang/String;Lcom/example/cell5/cell5/http/Reply$Streamed;)V" = some ⟨[.int, (.array .byte), (.object "java/lang/String"), (.object "java/lang/String"), (.object "com/example/cell5/cell5/http/Reply$Streamed")], none⟩ := by decide +kernel
theorem pd_0_5 : parseMethodDescriptor "()J" = some ⟨[], some .long⟩ := by decide +kernel
set_option maxRecDepth 65536 in
set_option maxHeartbeats 40000000 in
theorem sgZ_r {p : Program} {l : Launch} {e : Env} {s : State} {m : MethodId} {args : Array Value} {below : List Frame} {meth : Method} {c : Code} {T0 : State} {locs : List Loc} {Z : State} {a0 : Array Value} {h0 : Heap} {n0 : Nat} (i0 : Int32) (i1 : Int32) (j2 : Int64) (i4 : Int32) (i5 : Int32) (o6 : Addr) (o7 : Addr) (o8 : Addr)
    (X0 : Stand p l e room_1 s m args below meth c T0 locs 5 200) (hx : p.tables.exec = Jvm.exec) (hZ : Z.Warmed39 s.vm) (hw : ∀ d ∈ tables_1, d.before a0 Z = true) (hby : c.code = code) (hml : c.maxLocals = 15) (hown : s.vm.findClass "com/example/cell5/cell5/http/ReplyLengthPinLaw" = some m.cls) (e0 : T0.heap = h0) (Z0 : n0 ≤ h0.size) (N0 : Fr n0 locs) {k7 : ClassId} {vs7 : List Value} {d7 : Value} (V : Arv Z h0 o6 k7 .byte i5 vs7 d7) (hc149 : ¬ ((1 : Int32) = (0 : Int32))) (hc154 : ¬ ((1 : Int32) = (0 : Int32))) (hc159 : ¬ ((1 : Int32) = (0 : Int32))) :
    ∃ (T' : State) (h' : Heap) (locs' : List Loc) (Ls : Array Slot), Stand p l e room_1 s m args below meth c T' locs' 11 219 ∧ T'.heap = h' ∧ Fr n0 locs' ∧ Keep h0 h' [] ∧
      ∀ target, Steps p.tables e below (T'.setTop (mkF m 167 Ls [(.int (1 : Int32))])) target → Steps p.tables e below (T0.setTop (mkF m 43 #[.val (.int i0), .val (.int i1), .val (.long j2), .second, .val (.int i4), .val (.int i5), .val (.ref o6), .val (.ref o7), .val (.ref o8), .unset, .unset, .unset, .unset, .unset, .unset] [])) target := by
  obtain ⟨T5, h5, X5, e5, E5, A5, D5, -, st5⟩ := newO X0 hx hZ hown (hw _ (List.mem_of_getElem? (i := 9) rfl)) (hw _ (List.mem_of_getElem? (i := 10) rfl)) (hw _ (List.mem_of_getElem? (i := 11) rfl)) e0 (g := (mkF m 43 #[.val (.int i0), .val (.int i1), .val (.long j2), .second, .val (.int i4), .val (.int i5), .val (.ref o6), .val (.ref o7), .val (.ref o8), .unset, .unset, .unset, .unset, .unset, .unset] [])) rfl (hb hby at_43) (by decide) (by decide)
  obtain ⟨b5, g5⟩ : ∃ z, z = h0.size := ⟨_, rfl⟩
  rw [← g5] at A5 D5 st5
  have F_status_b5 : Fld Z h5 b5 "com/example/cell5/cell5/http/Reply" "status" "I" (.int (0 : Int32)) := D5 (Or.inr (hw _ (List.mem_of_getElem? (i := 27) rfl))) (ty := .int) (by decide)
  have F_body_b5 : Fld Z h5 b5 "com/example/cell5/cell5/http/Reply" "body" "[B" .null := D5 (Or.inr (hw _ (List.mem_of_getElem? (i := 29) rfl))) (ty := (.array .byte)) (by decide)
  have F_location_b5 : Fld Z h5 b5 "com/example/cell5/cell5/http/Reply" "location" "Ljava/lang/String;" .null := D5 (Or.inr (hw _ (List.mem_of_getElem? (i := 31) rfl))) (ty := (.object "java/lang/String")) (by decide)
  have F_type_b5 : Fld Z h5 b5 "com/example/cell5/cell5/http/Reply" "type" "Ljava/lang/String;" .null := D5 (Or.inr (hw _ (List.mem_of_getElem? (i := 33) rfl))) (ty := (.object "java/lang/String")) (by decide)
  have F_streamed_b5 : Fld Z h5 b5 "com/example/cell5/cell5/http/Reply" "streamed" "Lcom/example/cell5/cell5/http/Reply$Streamed;" .null := D5 (Or.inr (hw _ (List.mem_of_getElem? (i := 35) rfl))) (ty := (.object "com/example/cell5/cell5/http/Reply$Streamed")) (by decide)
  have E_b5 := A5
  have g_b5 : n0 ≤ b5 := Nat.le_trans Z0 (Nat.le_of_eq g5.symm)
  have sz_b5 : h0.size ≤ b5 := (Nat.le_trans (Keep.refl h0 []).1 (Nat.le_of_eq g5.symm))
  have K5 : Keep h0 h5 [] := (Keep.refl h0 []).ext E5
  obtain ⟨_, _, ⟨T6, L6, k6, n6⟩, -, X6, ⟨Lc6, hQ6, l6, y6, z6⟩, st6⟩ := X5.specialBack hx (y := (⟨"com/example/cell5/cell5/http/Reply", "<init>", "(I[BLjava/lang/String;Ljava/lang/String;)V"⟩ : MethodName)) rfl hown (mvT hZ (hw _ (List.mem_of_getElem? (i := 12) rfl))) (mvT hZ (hw _ (List.mem_of_getElem? (i := 13) rfl))) (mvT hZ (hw _ (List.mem_of_getElem? (i := 14) rfl))) (by decide) (backOf (W := 1) (rm1_o l Z a0 hw [] b5 i0 o6 o7 o8 h5 n0 (Nat.le_trans Z0 K5.1) ⟨E_b5, ⟨_, F_status_b5⟩, ⟨_, F_body_b5⟩, ⟨_, F_location_b5⟩, ⟨_, F_type_b5⟩, ⟨_, F_streamed_b5⟩⟩ g_b5) hZ (hw _ (List.mem_of_getElem? (i := 14) rfl)) (hw _ (List.mem_of_getElem? (i := 11) rfl)) (by decide) (by decide)) (g := (mkF m 54 #[.val (.int i0), .val (.int i1), .val (.long j2), .second, .val (.int i4), .val (.int i5), .val (.ref o6), .val (.ref o7), .val (.ref o8), .unset, .unset, .unset, .unset, .unset, .unset] [(.ref o8), (.ref o7), (.ref o6), (.int i0), (.ref b5), (.ref b5)])) rfl (by rw [hml]; rfl) (Steps.refl _) (a := b5) (argsL := [(.int i0), (.ref o6), (.ref o7), (.ref o8)]) (rest := [(.ref b5)]) (lenOf pd_0_0 rfl) rfl (by show 2 * 0 + _ ≤ _; exact Nat.le_of_eq rfl) (hb hby at_54) (fun _ _ => ⟨rfl, e5, (Nat.le_of_ble_eq_true rfl), (Nat.le_of_ble_eq_true rfl)⟩)
  dsimp only [Pt.U, Pt.locs, Pt.cells, Pt.slots] at X6 l6 y6 z6 st6 hQ6
  subst l6 y6 z6
  obtain ⟨rfl, N6q, Kq6, B1_6⟩ := hQ6
  have K6 : Keep h0 T6.heap [] := K5.trans Kq6 (fun x hx => by cases List.mem_singleton.mp hx; exact Or.inr sz_b5)
  have V_6 := (V.ext E5).keep Kq6 (own_nin (own_lt V.lt g5))
  have N6 := Fr.app N0 N6q
  obtain ⟨_, _, ⟨T7, L7, k7, n7⟩, -, X7, ⟨Lc7, hQ7, l7, y7, z7⟩, st7⟩ := Jvm.LawKit.callS X6 hx (y := (⟨"com/example/cell5/cell5/http/Reply", "streamed", "(ILjava/lang/String;JLjava/io/InputStream;)Lcom/example/cell5/cell5/http/Reply;"⟩ : MethodName)) hown (mvT hZ (hw _ (List.mem_of_getElem? (i := 36) rfl))) (mvT hZ (hw _ (List.mem_of_getElem? (i := 37) rfl))) (mvT hZ (hw _ (List.mem_of_getElem? (i := 11) rfl))) (mvT hZ (hw _ (List.mem_of_getElem? (i := 38) rfl))) (by decide) (backOf (W := 0) (rm5 l Z a0 hw [] i0 o8 j2 T6.heap n0 (Nat.le_trans Z0 K6.1)) hZ (hw _ (List.mem_of_getElem? (i := 38) rfl)) (hw _ (List.mem_of_getElem? (i := 11) rfl)) (by decide) (by decide)) (g := (mkF m 64 #[.val (.int i0), .val (.int i1), .val (.long j2), .second, .val (.int i4), .val (.int i5), .val (.ref o6), .val (.ref o7), .val (.ref o8), .val (.ref b5), .unset, .unset, .unset, .unset, .unset] [.null, (.long j2), (.ref o8), (.int i0)])) rfl (by rw [hml]; rfl) (argsL := [(.int i0), (.ref o8), (.long j2), .null]) (rest := []) (lenOf pd_0_3 rfl) rfl (by show 2 * 0 + _ ≤ _; exact Nat.le_of_eq rfl) (hb hby at_64) (fun _ _ => ⟨rfl, rfl, (Nat.le_of_ble_eq_true rfl), (Nat.le_of_ble_eq_true rfl)⟩)
  dsimp only [Pt.U, Pt.locs, Pt.cells, Pt.slots] at X7 l7 y7 z7 st7 hQ7
  subst l7 y7 z7
  obtain ⟨bq, sq, bbq, rfl, N7q, Kq7, B2_7, D2_7⟩ := hQ7
  have K7 : Keep h0 T7.heap [] := K6.trans Kq7 (fun _ q => nomatch q)
  have V_7 := V_6.keep Kq7 List.not_mem_nil
  have B1_7 := B1_6.keep Kq7 List.not_mem_nil
  have N7 := Fr.app N6 N7q
  obtain ⟨T8, h8, X8, e8, E8, A8, D8, -, st8⟩ := newO X7 hx hZ hown (hw _ (List.mem_of_getElem? (i := 9) rfl)) (hw _ (List.mem_of_getElem? (i := 10) rfl)) (hw _ (List.mem_of_getElem? (i := 11) rfl)) rfl (g := (mkF m 69 #[.val (.int i0), .val (.int i1), .val (.long j2), .second, .val (.int i4), .val (.int i5), .val (.ref o6), .val (.ref o7), .val (.ref o8), .val (.ref b5), .val (.ref bq), .unset, .unset, .unset, .unset] [])) rfl (hb hby at_69) (by decide) (by decide)
  obtain ⟨b8, g8⟩ : ∃ z, z = T7.heap.size := ⟨_, rfl⟩
  rw [← g8] at A8 D8 st8
  have F_status_b8 : Fld Z h8 b8 "com/example/cell5/cell5/http/Reply" "status" "I" (.int (0 : Int32)) := D8 (Or.inr (hw _ (List.mem_of_getElem? (i := 27) rfl))) (ty := .int) (by decide)
  have F_body_b8 : Fld Z h8 b8 "com/example/cell5/cell5/http/Reply" "body" "[B" .null := D8 (Or.inr (hw _ (List.mem_of_getElem? (i := 29) rfl))) (ty := (.array .byte)) (by decide)
  have F_location_b8 : Fld Z h8 b8 "com/example/cell5/cell5/http/Reply" "location" "Ljava/lang/String;" .null := D8 (Or.inr (hw _ (List.mem_of_getElem? (i := 31) rfl))) (ty := (.object "java/lang/String")) (by decide)
  have F_type_b8 : Fld Z h8 b8 "com/example/cell5/cell5/http/Reply" "type" "Ljava/lang/String;" .null := D8 (Or.inr (hw _ (List.mem_of_getElem? (i := 33) rfl))) (ty := (.object "java/lang/String")) (by decide)
  have F_streamed_b8 : Fld Z h8 b8 "com/example/cell5/cell5/http/Reply" "streamed" "Lcom/example/cell5/cell5/http/Reply$Streamed;" .null := D8 (Or.inr (hw _ (List.mem_of_getElem? (i := 35) rfl))) (ty := (.object "com/example/cell5/cell5/http/Reply$Streamed")) (by decide)
  have E_b8 := A8
  have g_b8 : n0 ≤ b8 := Nat.le_trans (Nat.le_trans (Nat.le_trans (Nat.le_trans Z0 E5.1) Kq6.1) Kq7.1) (Nat.le_of_eq g8.symm)
  have sz_b8 : h0.size ≤ b8 := (Nat.le_trans K7.1 (Nat.le_of_eq g8.symm))
  have K8 : Keep h0 h8 [] := K7.ext E8
  obtain ⟨T9, h9, X9, e9, E9, A9, D9, -, st9⟩ := newO X8 hx hZ hown (hw _ (List.mem_of_getElem? (i := 51) rfl)) (hw _ (List.mem_of_getElem? (i := 41) rfl)) (hw _ (List.mem_of_getElem? (i := 42) rfl)) e8 (g := (mkF m 80 #[.val (.int i0), .val (.int i1), .val (.long j2), .second, .val (.int i4), .val (.int i5), .val (.ref o6), .val (.ref o7), .val (.ref o8), .val (.ref b5), .val (.ref bq), .unset, .unset, .unset, .unset] [(.ref o8), (.ref o7), (.ref o6), (.int i0), (.ref b8), (.ref b8)])) rfl (hb hby at_80) (by decide) (by decide)
  obtain ⟨b9, g9⟩ : ∃ z, z = h8.size := ⟨_, rfl⟩
  rw [← g9] at A9 D9 st9
  have F_length_b9 : Fld Z h9 b9 "com/example/cell5/cell5/http/Reply$Streamed" "length" "J" (.long (0 : Int64)) := D9 (Or.inr (hw _ (List.mem_of_getElem? (i := 48) rfl))) (ty := .long) (by decide)
  have F_bytes_b9 : Fld Z h9 b9 "com/example/cell5/cell5/http/Reply$Streamed" "bytes" "Ljava/io/InputStream;" .null := D9 (Or.inr (hw _ (List.mem_of_getElem? (i := 50) rfl))) (ty := (.object "java/io/InputStream")) (by decide)
  have E_b9 := A9
  have g_b9 : n0 ≤ b9 := Nat.le_trans (Nat.le_trans (Nat.le_trans (Nat.le_trans (Nat.le_trans Z0 E5.1) Kq6.1) Kq7.1) E8.1) (Nat.le_of_eq g9.symm)
  have sz_b9 : h0.size ≤ b9 := (Nat.le_trans K8.1 (Nat.le_of_eq g9.symm))
  have K9 : Keep h0 h9 [] := K8.ext E9
  obtain ⟨_, _, ⟨T10, L10, k10, n10⟩, -, X10, ⟨Lc10, hQ10, l10, y10, z10⟩, st10⟩ := X9.specialBack hx (y := (⟨"com/example/cell5/cell5/http/Reply$Streamed", "<init>", "(JLjava/io/InputStream;)V"⟩ : MethodName)) rfl hown (mvT hZ (hw _ (List.mem_of_getElem? (i := 52) rfl))) (mvT hZ (hw _ (List.mem_of_getElem? (i := 44) rfl))) (mvT hZ (hw _ (List.mem_of_getElem? (i := 45) rfl))) (by decide) (backOf (W := 7) (rm6 l Z a0 hw [] b9 j2 _ _ h9 n0 (Nat.le_trans Z0 K9.1) E_b9 F_length_b9 g_b9 F_bytes_b9) hZ (hw _ (List.mem_of_getElem? (i := 45) rfl)) (hw _ (List.mem_of_getElem? (i := 42) rfl)) (by decide) (by decide)) (g := (mkF m 86 #[.val (.int i0), .val (.int i1), .val (.long j2), .second, .val (.int i4), .val (.int i5), .val (.ref o6), .val (.ref o7), .val (.ref o8), .val (.ref b5), .val (.ref bq), .unset, .unset, .unset, .unset] [.null, (.long j2), (.ref b9), (.ref b9), (.ref o8), (.ref o7), (.ref o6), (.int i0), (.ref b8), (.ref b8)])) rfl (by rw [hml]; rfl) (Steps.refl _) (a := b9) (argsL := [(.long j2), .null]) (rest := [(.ref b9), (.ref o8), (.ref o7), (.ref o6), (.int i0), (.ref b8), (.ref b8)]) (lenOf pd_0_4 rfl) rfl (by show 2 * 0 + _ ≤ _; exact Nat.le_of_eq rfl) (hb hby at_86) (fun _ _ => ⟨rfl, e9, (Nat.le_of_ble_eq_true rfl), (Nat.le_of_ble_eq_true rfl)⟩)
  dsimp only [Pt.U, Pt.locs, Pt.cells, Pt.slots] at X10 l10 y10 z10 st10 hQ10
  subst l10 y10 z10
  obtain ⟨rfl, N10q, Kq10, D3_10⟩ := hQ10
  have K10 : Keep h0 T10.heap [] := K9.trans Kq10 (fun x hx => by cases List.mem_singleton.mp hx; exact Or.inr sz_b9)
  have ne_1_2 := own_lt B1_7.1.lt g8
  have ne_1_3 := own_lt (B1_7.ext E8).1.lt g9
  have ne_b_2 := own_lt B2_7.1.lt g8
  have ne_b_3 := own_lt (B2_7.ext E8).1.lt g9
  have ne_s_2 := own_lt D2_7.1.lt g8
  have ne_s_3 := own_lt (D2_7.ext E8).1.lt g9
  have ne_v_2 := own_lt V_7.lt g8
  have ne_v_3 := own_lt (V_7.ext E8).lt g9
  have ne_2_3 := own_lt E_b8.lt g9
  have V_10 := ((V_7.ext E8).ext E9).keep Kq10 (own_nin ne_v_3)
  have B1_10 := ((B1_7.ext E8).ext E9).keep Kq10 (own_nin ne_1_3)
  have B2_10 := ((B2_7.ext E8).ext E9).keep Kq10 (own_nin ne_b_3)
  have D2_10 := ((D2_7.ext E8).ext E9).keep Kq10 (own_nin ne_s_3)
  have Bf : RF Z h8 b8 := ⟨E_b8, ⟨_, F_status_b8⟩, ⟨_, F_body_b8⟩, ⟨_, F_location_b8⟩, ⟨_, F_type_b8⟩, ⟨_, F_streamed_b8⟩⟩
  have Bg := (Bf.ext E9).keep Kq10 (own_nin ne_2_3)
  have N10 := Fr.app N7 N10q
  obtain ⟨_, _, ⟨T11, L11, k11, n11⟩, -, X11, ⟨Lc11, hQ11, l11, y11, z11⟩, st11⟩ := X10.specialBack hx (y := (⟨"com/example/cell5/cell5/http/Reply", "<init>", "(I[BLjava/lang/String;Ljava/lang/String;Lcom/example/cell5/cell5/http/Reply$Streamed;)V"⟩ : MethodName)) rfl hown (mvT hZ (hw _ (List.mem_of_getElem? (i := 53) rfl))) (mvT hZ (hw _ (List.mem_of_getElem? (i := 16) rfl))) (mvT hZ (hw _ (List.mem_of_getElem? (i := 17) rfl))) (by decide) (backOf (W := 1) (rm2 l Z a0 hw [] b8 i0 o6 (.ref o7) o8 (.ref b9) T10.heap n0 (Nat.le_trans Z0 K10.1) rfl rfl Bg g_b8) hZ (hw _ (List.mem_of_getElem? (i := 17) rfl)) (hw _ (List.mem_of_getElem? (i := 11) rfl)) (by decide) (by decide)) (g := (mkF m 89 #[.val (.int i0), .val (.int i1), .val (.long j2), .second, .val (.int i4), .val (.int i5), .val (.ref o6), .val (.ref o7), .val (.ref o8), .val (.ref b5), .val (.ref bq), .unset, .unset, .unset, .unset] [(.ref b9), (.ref o8), (.ref o7), (.ref o6), (.int i0), (.ref b8), (.ref b8)])) rfl (by rw [hml]; rfl) (Steps.refl _) (a := b8) (argsL := [(.int i0), (.ref o6), (.ref o7), (.ref o8), (.ref b9)]) (rest := [(.ref b8)]) (lenOf pd_0_1 rfl) rfl (by show 2 * 0 + _ ≤ _; exact Nat.le_of_eq rfl) (hb hby at_89) (fun _ _ => ⟨rfl, rfl, (Nat.le_of_ble_eq_true rfl), (Nat.le_of_ble_eq_true rfl)⟩)
  dsimp only [Pt.U, Pt.locs, Pt.cells, Pt.slots] at X11 l11 y11 z11 st11 hQ11
  subst l11 y11 z11
  obtain ⟨rfl, N11q, Kq11, B3_11⟩ := hQ11
  have K11 : Keep h0 T11.heap [] := K10.trans Kq11 (fun x hx => by cases List.mem_singleton.mp hx; exact Or.inr sz_b8)
  have V_11 := V_10.keep Kq11 (own_nin ne_v_2)
  have B1_11 := B1_10.keep Kq11 (own_nin ne_1_2)
  have B2_11 := B2_10.keep Kq11 (own_nin ne_b_2)
  have D2_11 := D2_10.keep Kq11 (own_nin ne_s_2)
  have D3_11 := D3_10.keep Kq11 (own_nin ne_2_3.symm)
  have N11 := Fr.app N10 N11q
  obtain ⟨cl7, Ar7, -, S7, N7v, -, -⟩ := V_11
  obtain ⟨cq12, kq12, q12a, q12b, q12c⟩ := isOf hZ rfl B1_11.1
  obtain ⟨_, _, ⟨T12, L12, k12, n12⟩, -, X12, ⟨Lc12, hQ12, l12, y12, z12⟩, st12⟩ := X11.virtualBack hx (y := (⟨"com/example/cell5/cell5/http/Reply", "length", "()J"⟩ : MethodName)) (z := (⟨"com/example/cell5/cell5/http/Reply", "length", "()J"⟩ : MethodName)) hown (mvT hZ (hw _ (List.mem_of_getElem? (i := 54) rfl))) (mvT hZ (hw _ (List.mem_of_getElem? (i := 55) rfl))) (notFace_of_selects (args := #[]) (mvT hZ (hw _ (List.mem_of_getElem? (i := 57) rfl)))) (mvT hZ (hw _ (List.mem_of_getElem? (i := 57) rfl))) (mvT hZ (hw _ (List.mem_of_getElem? (i := 56) rfl))) (by decide) (backOf (W := 0) (rm7_n l Z a0 hw [] b5 o6 cl7 i5 T11.heap n0 (Nat.le_trans Z0 K11.1) B1_11.2.2 B1_11.2.1 Ar7 S7 N7v) hZ (hw _ (List.mem_of_getElem? (i := 58) rfl)) (hw _ (List.mem_of_getElem? (i := 11) rfl)) (by decide) (by decide)) q12a q12c (g := (mkF m 96 #[.val (.int i0), .val (.int i1), .val (.long j2), .second, .val (.int i4), .val (.int i5), .val (.ref o6), .val (.ref o7), .val (.ref o8), .val (.ref b5), .val (.ref bq), .val (.ref b8), .unset, .unset, .unset] [(.ref b5)])) rfl (by rw [hml]; rfl) (Steps.refl _) (argsL := []) (rest := []) (lenOf pd_0_5 rfl) rfl (by show 2 * 0 + _ ≤ _; exact Nat.le_of_eq rfl) (hb hby at_96) (fun _ _ => ⟨rfl, rfl, (Nat.le_of_ble_eq_true rfl), (Nat.le_of_ble_eq_true rfl)⟩)
  dsimp only [Pt.U, Pt.locs, Pt.cells, Pt.slots] at X12 l12 y12 z12 st12 hQ12
  subst l12 y12 z12
  obtain ⟨rfl, N12q, h12q⟩ := hQ12
  have Kq12 : Keep T11.heap T12.heap [] := by rw [h12q]; exact Keep.refl _ _
  have K12 : Keep h0 T12.heap [] := K11.trans Kq12 (fun _ q => nomatch q)
  have B2_12 := B2_11.keep Kq12 List.not_mem_nil
  have D2_12 := D2_11.keep Kq12 List.not_mem_nil
  have B3_12 := B3_11.keep Kq12 List.not_mem_nil
  have D3_12 := D3_11.keep Kq12 List.not_mem_nil
  have N12 := Fr.app N11 N12q
  obtain ⟨cq13, kq13, q13a, q13b, q13c⟩ := isOf hZ rfl B2_12.1
  obtain ⟨_, _, ⟨T13, L13, k13, n13⟩, -, X13, ⟨Lc13, hQ13, l13, y13, z13⟩, st13⟩ := X12.virtualBack hx (y := (⟨"com/example/cell5/cell5/http/Reply", "length", "()J"⟩ : MethodName)) (z := (⟨"com/example/cell5/cell5/http/Reply", "length", "()J"⟩ : MethodName)) hown (mvT hZ (hw _ (List.mem_of_getElem? (i := 54) rfl))) (mvT hZ (hw _ (List.mem_of_getElem? (i := 55) rfl))) (notFace_of_selects (args := #[]) (mvT hZ (hw _ (List.mem_of_getElem? (i := 57) rfl)))) (mvT hZ (hw _ (List.mem_of_getElem? (i := 57) rfl))) (mvT hZ (hw _ (List.mem_of_getElem? (i := 56) rfl))) (by decide) (backOf (W := 0) (rm7_s l Z a0 hw [] bq sq T12.heap n0 (Nat.le_trans Z0 K12.1) B2_12.2.2 j2 D2_12) hZ (hw _ (List.mem_of_getElem? (i := 58) rfl)) (hw _ (List.mem_of_getElem? (i := 11) rfl)) (by decide) (by decide)) q13a q13c (g := (mkF m 115 #[.val (.int i0), .val (.int i1), .val (.long j2), .second, .val (.int i4), .val (.int i5), .val (.ref o6), .val (.ref o7), .val (.ref o8), .val (.ref b5), .val (.ref bq), .val (.ref b8), .val (.int (1 : Int32)), .unset, .unset] [(.ref bq)])) rfl (by rw [hml]; rfl) (Steps.refl _) (argsL := []) (rest := []) (lenOf pd_0_5 rfl) rfl (by show 2 * 0 + _ ≤ _; exact Nat.le_of_eq rfl) (hb hby at_115) (fun _ _ => ⟨rfl, rfl, (Nat.le_of_ble_eq_true rfl), (Nat.le_of_ble_eq_true rfl)⟩)
  dsimp only [Pt.U, Pt.locs, Pt.cells, Pt.slots] at X13 l13 y13 z13 st13 hQ13
  subst l13 y13 z13
  obtain ⟨rfl, N13q, h13q⟩ := hQ13
  have Kq13 : Keep T12.heap T13.heap [] := by rw [h13q]; exact Keep.refl _ _
  have K13 : Keep h0 T13.heap [] := K12.trans Kq13 (fun _ q => nomatch q)
  have B2_13 := B2_12.keep Kq13 List.not_mem_nil
  have D2_13 := D2_12.keep Kq13 List.not_mem_nil
  have B3_13 := B3_12.keep Kq13 List.not_mem_nil
  have D3_13 := D3_12.keep Kq13 List.not_mem_nil
  have N13 := Fr.app N12 N13q
  obtain ⟨cq14, kq14, q14a, q14b, q14c⟩ := isOf hZ rfl B3_13.1
  obtain ⟨_, _, ⟨T14, L14, k14, n14⟩, -, X14, ⟨Lc14, hQ14, l14, y14, z14⟩, st14⟩ := X13.virtualBack hx (y := (⟨"com/example/cell5/cell5/http/Reply", "length", "()J"⟩ : MethodName)) (z := (⟨"com/example/cell5/cell5/http/Reply", "length", "()J"⟩ : MethodName)) hown (mvT hZ (hw _ (List.mem_of_getElem? (i := 54) rfl))) (mvT hZ (hw _ (List.mem_of_getElem? (i := 55) rfl))) (notFace_of_selects (args := #[]) (mvT hZ (hw _ (List.mem_of_getElem? (i := 57) rfl)))) (mvT hZ (hw _ (List.mem_of_getElem? (i := 57) rfl))) (mvT hZ (hw _ (List.mem_of_getElem? (i := 56) rfl))) (by decide) (backOf (W := 0) (rm7_s l Z a0 hw [] b8 b9 T13.heap n0 (Nat.le_trans Z0 K13.1) B3_13.2.2 j2 D3_13) hZ (hw _ (List.mem_of_getElem? (i := 58) rfl)) (hw _ (List.mem_of_getElem? (i := 11) rfl)) (by decide) (by decide)) q14a q14c (g := (mkF m 132 #[.val (.int i0), .val (.int i1), .val (.long j2), .second, .val (.int i4), .val (.int i5), .val (.ref o6), .val (.ref o7), .val (.ref o8), .val (.ref b5), .val (.ref bq), .val (.ref b8), .val (.int (1 : Int32)), .val (.int (1 : Int32)), .unset] [(.ref b8)])) rfl (by rw [hml]; rfl) (Steps.refl _) (argsL := []) (rest := []) (lenOf pd_0_5 rfl) rfl (by show 2 * 0 + _ ≤ _; exact Nat.le_of_eq rfl) (hb hby at_132) (fun _ _ => ⟨rfl, rfl, (Nat.le_of_ble_eq_true rfl), (Nat.le_of_ble_eq_true rfl)⟩)
  dsimp only [Pt.U, Pt.locs, Pt.cells, Pt.slots] at X14 l14 y14 z14 st14 hQ14
  subst l14 y14 z14
  obtain ⟨rfl, N14q, h14q⟩ := hQ14
  have Kq14 : Keep T13.heap T14.heap [] := by rw [h14q]; exact Keep.refl _ _
  have K14 : Keep h0 T14.heap [] := K13.trans Kq14 (fun _ q => nomatch q)
  have B2_14 := B2_13.keep Kq14 List.not_mem_nil
  have D2_14 := D2_13.keep Kq14 List.not_mem_nil
  have B3_14 := B3_13.keep Kq14 List.not_mem_nil
  have D3_14 := D3_13.keep Kq14 List.not_mem_nil
  have N14 := Fr.app N13 N14q
  refine ⟨T14, _, _, #[.val (.int i0), .val (.int i1), .val (.long j2), .second, .val (.int i4), .val (.int i5), .val (.ref o6), .val (.ref o7), .val (.ref o8), .val (.ref b5), .val (.ref bq), .val (.ref b8), .val (.int (1 : Int32)), .val (.int (1 : Int32)), .val (.int (1 : Int32))], X14, rfl, N14, K14, fun target kt => ?_⟩
  show Steps p.tables e below (T0.setTop (mkF m 43 #[.val (.int i0), .val (.int i1), .val (.long j2), .second, .val (.int i4), .val (.int i5), .val (.ref o6), .val (.ref o7), .val (.ref o8), .unset, .unset, .unset, .unset, .unset, .unset] [])) _
  refine st5 _ ?_
  show Steps p.tables e below (T5.setTop (mkF m 46 #[.val (.int i0), .val (.int i1), .val (.long j2), .second, .val (.int i4), .val (.int i5), .val (.ref o6), .val (.ref o7), .val (.ref o8), .unset, .unset, .unset, .unset, .unset, .unset] [(.ref b5)])) _
  refine XS.dup X5.here hx rfl (hb hby at_46) rfl rfl ?_
  show Steps p.tables e below (T5.setTop (mkF m 47 #[.val (.int i0), .val (.int i1), .val (.long j2), .second, .val (.int i4), .val (.int i5), .val (.ref o6), .val (.ref o7), .val (.ref o8), .unset, .unset, .unset, .unset, .unset, .unset] [(.ref b5), (.ref b5)])) _
  refine XS.iloadN X5.here hx rfl (hb hby at_47) rfl ?_
  show Steps p.tables e below (T5.setTop (mkF m 48 #[.val (.int i0), .val (.int i1), .val (.long j2), .second, .val (.int i4), .val (.int i5), .val (.ref o6), .val (.ref o7), .val (.ref o8), .unset, .unset, .unset, .unset, .unset, .unset] [(.int i0), (.ref b5), (.ref b5)])) _
  refine XS.aload X5.here hx rfl (hb hby at_48) rfl rfl ?_
  show Steps p.tables e below (T5.setTop (mkF m 50 #[.val (.int i0), .val (.int i1), .val (.long j2), .second, .val (.int i4), .val (.int i5), .val (.ref o6), .val (.ref o7), .val (.ref o8), .unset, .unset, .unset, .unset, .unset, .unset] [(.ref o6), (.int i0), (.ref b5), (.ref b5)])) _
  refine XS.aload X5.here hx rfl (hb hby at_50) rfl rfl ?_
  show Steps p.tables e below (T5.setTop (mkF m 52 #[.val (.int i0), .val (.int i1), .val (.long j2), .second, .val (.int i4), .val (.int i5), .val (.ref o6), .val (.ref o7), .val (.ref o8), .unset, .unset, .unset, .unset, .unset, .unset] [(.ref o7), (.ref o6), (.int i0), (.ref b5), (.ref b5)])) _
  refine XS.aload X5.here hx rfl (hb hby at_52) rfl rfl ?_
  show Steps p.tables e below (T5.setTop (mkF m 54 #[.val (.int i0), .val (.int i1), .val (.long j2), .second, .val (.int i4), .val (.int i5), .val (.ref o6), .val (.ref o7), .val (.ref o8), .unset, .unset, .unset, .unset, .unset, .unset] [(.ref o8), (.ref o7), (.ref o6), (.int i0), (.ref b5), (.ref b5)])) _
  refine st6.trans ?_
  show Steps p.tables e below (T6.setTop (mkF m 57 #[.val (.int i0), .val (.int i1), .val (.long j2), .second, .val (.int i4), .val (.int i5), .val (.ref o6), .val (.ref o7), .val (.ref o8), .unset, .unset, .unset, .unset, .unset, .unset] [(.ref b5)])) _
  refine XS.astore X6.here hx rfl (hb hby at_57) rfl rfl (l' := #[.val (.int i0), .val (.int i1), .val (.long j2), .second, .val (.int i4), .val (.int i5), .val (.ref o6), .val (.ref o7), .val (.ref o8), .val (.ref b5), .unset, .unset, .unset, .unset, .unset]) rfl ?_
  show Steps p.tables e below (T6.setTop (mkF m 59 #[.val (.int i0), .val (.int i1), .val (.long j2), .second, .val (.int i4), .val (.int i5), .val (.ref o6), .val (.ref o7), .val (.ref o8), .val (.ref b5), .unset, .unset, .unset, .unset, .unset] [])) _
  refine XS.iloadN X6.here hx rfl (hb hby at_59) rfl ?_
  show Steps p.tables e below (T6.setTop (mkF m 60 #[.val (.int i0), .val (.int i1), .val (.long j2), .second, .val (.int i4), .val (.int i5), .val (.ref o6), .val (.ref o7), .val (.ref o8), .val (.ref b5), .unset, .unset, .unset, .unset, .unset] [(.int i0)])) _
  refine XS.aload X6.here hx rfl (hb hby at_60) rfl rfl ?_
  show Steps p.tables e below (T6.setTop (mkF m 62 #[.val (.int i0), .val (.int i1), .val (.long j2), .second, .val (.int i4), .val (.int i5), .val (.ref o6), .val (.ref o7), .val (.ref o8), .val (.ref b5), .unset, .unset, .unset, .unset, .unset] [(.ref o8), (.int i0)])) _
  refine XS.lloadN X6.here hx rfl (hb hby at_62) rfl ?_
  show Steps p.tables e below (T6.setTop (mkF m 63 #[.val (.int i0), .val (.int i1), .val (.long j2), .second, .val (.int i4), .val (.int i5), .val (.ref o6), .val (.ref o7), .val (.ref o8), .val (.ref b5), .unset, .unset, .unset, .unset, .unset] [(.long j2), (.ref o8), (.int i0)])) _
  refine XS.aconstNull X6.here hx rfl (hb hby at_63) ?_
  show Steps p.tables e below (T6.setTop (mkF m 64 #[.val (.int i0), .val (.int i1), .val (.long j2), .second, .val (.int i4), .val (.int i5), .val (.ref o6), .val (.ref o7), .val (.ref o8), .val (.ref b5), .unset, .unset, .unset, .unset, .unset] [.null, (.long j2), (.ref o8), (.int i0)])) _
  refine st7 _ ?_
  show Steps p.tables e below (T7.setTop (mkF m 67 #[.val (.int i0), .val (.int i1), .val (.long j2), .second, .val (.int i4), .val (.int i5), .val (.ref o6), .val (.ref o7), .val (.ref o8), .val (.ref b5), .unset, .unset, .unset, .unset, .unset] [(.ref bq)])) _
  refine XS.astore X7.here hx rfl (hb hby at_67) rfl rfl (l' := #[.val (.int i0), .val (.int i1), .val (.long j2), .second, .val (.int i4), .val (.int i5), .val (.ref o6), .val (.ref o7), .val (.ref o8), .val (.ref b5), .val (.ref bq), .unset, .unset, .unset, .unset]) rfl ?_
  show Steps p.tables e below (T7.setTop (mkF m 69 #[.val (.int i0), .val (.int i1), .val (.long j2), .second, .val (.int i4), .val (.int i5), .val (.ref o6), .val (.ref o7), .val (.ref o8), .val (.ref b5), .val (.ref bq), .unset, .unset, .unset, .unset] [])) _
  refine st8 _ ?_
  show Steps p.tables e below (T8.setTop (mkF m 72 #[.val (.int i0), .val (.int i1), .val (.long j2), .second, .val (.int i4), .val (.int i5), .val (.ref o6), .val (.ref o7), .val (.ref o8), .val (.ref b5), .val (.ref bq), .unset, .unset, .unset, .unset] [(.ref b8)])) _
  refine XS.dup X8.here hx rfl (hb hby at_72) rfl rfl ?_
  show Steps p.tables e below (T8.setTop (mkF m 73 #[.val (.int i0), .val (.int i1), .val (.long j2), .second, .val (.int i4), .val (.int i5), .val (.ref o6), .val (.ref o7), .val (.ref o8), .val (.ref b5), .val (.ref bq), .unset, .unset, .unset, .unset] [(.ref b8), (.ref b8)])) _
  refine XS.iloadN X8.here hx rfl (hb hby at_73) rfl ?_
  show Steps p.tables e below (T8.setTop (mkF m 74 #[.val (.int i0), .val (.int i1), .val (.long j2), .second, .val (.int i4), .val (.int i5), .val (.ref o6), .val (.ref o7), .val (.ref o8), .val (.ref b5), .val (.ref bq), .unset, .unset, .unset, .unset] [(.int i0), (.ref b8), (.ref b8)])) _
  refine XS.aload X8.here hx rfl (hb hby at_74) rfl rfl ?_
  show Steps p.tables e below (T8.setTop (mkF m 76 #[.val (.int i0), .val (.int i1), .val (.long j2), .second, .val (.int i4), .val (.int i5), .val (.ref o6), .val (.ref o7), .val (.ref o8), .val (.ref b5), .val (.ref bq), .unset, .unset, .unset, .unset] [(.ref o6), (.int i0), (.ref b8), (.ref b8)])) _
  refine XS.aload X8.here hx rfl (hb hby at_76) rfl rfl ?_
  show Steps p.tables e below (T8.setTop (mkF m 78 #[.val (.int i0), .val (.int i1), .val (.long j2), .second, .val (.int i4), .val (.int i5), .val (.ref o6), .val (.ref o7), .val (.ref o8), .val (.ref b5), .val (.ref bq), .unset, .unset, .unset, .unset] [(.ref o7), (.ref o6), (.int i0), (.ref b8), (.ref b8)])) _
  refine XS.aload X8.here hx rfl (hb hby at_78) rfl rfl ?_
  show Steps p.tables e below (T8.setTop (mkF m 80 #[.val (.int i0), .val (.int i1), .val (.long j2), .second, .val (.int i4), .val (.int i5), .val (.ref o6), .val (.ref o7), .val (.ref o8), .val (.ref b5), .val (.ref bq), .unset, .unset, .unset, .unset] [(.ref o8), (.ref o7), (.ref o6), (.int i0), (.ref b8), (.ref b8)])) _
  refine st9 _ ?_
  show Steps p.tables e below (T9.setTop (mkF m 83 #[.val (.int i0), .val (.int i1), .val (.long j2), .second, .val (.int i4), .val (.int i5), .val (.ref o6), .val (.ref o7), .val (.ref o8), .val (.ref b5), .val (.ref bq), .unset, .unset, .unset, .unset] [(.ref b9), (.ref o8), (.ref o7), (.ref o6), (.int i0), (.ref b8), (.ref b8)])) _
  refine XS.dup X9.here hx rfl (hb hby at_83) rfl rfl ?_
  show Steps p.tables e below (T9.setTop (mkF m 84 #[.val (.int i0), .val (.int i1), .val (.long j2), .second, .val (.int i4), .val (.int i5), .val (.ref o6), .val (.ref o7), .val (.ref o8), .val (.ref b5), .val (.ref bq), .unset, .unset, .unset, .unset] [(.ref b9), (.ref b9), (.ref o8), (.ref o7), (.ref o6), (.int i0), (.ref b8), (.ref b8)])) _
  refine XS.lloadN X9.here hx rfl (hb hby at_84) rfl ?_
  show Steps p.tables e below (T9.setTop (mkF m 85 #[.val (.int i0), .val (.int i1), .val (.long j2), .second, .val (.int i4), .val (.int i5), .val (.ref o6), .val (.ref o7), .val (.ref o8), .val (.ref b5), .val (.ref bq), .unset, .unset, .unset, .unset] [(.long j2), (.ref b9), (.ref b9), (.ref o8), (.ref o7), (.ref o6), (.int i0), (.ref b8), (.ref b8)])) _
  refine XS.aconstNull X9.here hx rfl (hb hby at_85) ?_
  show Steps p.tables e below (T9.setTop (mkF m 86 #[.val (.int i0), .val (.int i1), .val (.long j2), .second, .val (.int i4), .val (.int i5), .val (.ref o6), .val (.ref o7), .val (.ref o8), .val (.ref b5), .val (.ref bq), .unset, .unset, .unset, .unset] [.null, (.long j2), (.ref b9), (.ref b9), (.ref o8), (.ref o7), (.ref o6), (.int i0), (.ref b8), (.ref b8)])) _
  refine st10.trans ?_
  show Steps p.tables e below (T10.setTop (mkF m 89 #[.val (.int i0), .val (.int i1), .val (.long j2), .second, .val (.int i4), .val (.int i5), .val (.ref o6), .val (.ref o7), .val (.ref o8), .val (.ref b5), .val (.ref bq), .unset, .unset, .unset, .unset] [(.ref b9), (.ref o8), (.ref o7), (.ref o6), (.int i0), (.ref b8), (.ref b8)])) _
  refine st11.trans ?_
  show Steps p.tables e below (T11.setTop (mkF m 92 #[.val (.int i0), .val (.int i1), .val (.long j2), .second, .val (.int i4), .val (.int i5), .val (.ref o6), .val (.ref o7), .val (.ref o8), .val (.ref b5), .val (.ref bq), .unset, .unset, .unset, .unset] [(.ref b8)])) _
  refine XS.astore X11.here hx rfl (hb hby at_92) rfl rfl (l' := #[.val (.int i0), .val (.int i1), .val (.long j2), .second, .val (.int i4), .val (.int i5), .val (.ref o6), .val (.ref o7), .val (.ref o8), .val (.ref b5), .val (.ref bq), .val (.ref b8), .unset, .unset, .unset]) rfl ?_
  show Steps p.tables e below (T11.setTop (mkF m 94 #[.val (.int i0), .val (.int i1), .val (.long j2), .second, .val (.int i4), .val (.int i5), .val (.ref o6), .val (.ref o7), .val (.ref o8), .val (.ref b5), .val (.ref bq), .val (.ref b8), .unset, .unset, .unset] [])) _
  refine XS.aload X11.here hx rfl (hb hby at_94) rfl rfl ?_
  show Steps p.tables e below (T11.setTop (mkF m 96 #[.val (.int i0), .val (.int i1), .val (.long j2), .second, .val (.int i4), .val (.int i5), .val (.ref o6), .val (.ref o7), .val (.ref o8), .val (.ref b5), .val (.ref bq), .val (.ref b8), .unset, .unset, .unset] [(.ref b5)])) _
  refine st12.trans ?_
  show Steps p.tables e below (T12.setTop (mkF m 99 #[.val (.int i0), .val (.int i1), .val (.long j2), .second, .val (.int i4), .val (.int i5), .val (.ref o6), .val (.ref o7), .val (.ref o8), .val (.ref b5), .val (.ref bq), .val (.ref b8), .unset, .unset, .unset] [(.long (i5.toInt64))])) _
  refine XS.iload X12.here hx rfl (hb hby at_99) rfl ?_
  show Steps p.tables e below (T12.setTop (mkF m 101 #[.val (.int i0), .val (.int i1), .val (.long j2), .second, .val (.int i4), .val (.int i5), .val (.ref o6), .val (.ref o7), .val (.ref o8), .val (.ref b5), .val (.ref bq), .val (.ref b8), .unset, .unset, .unset] [(.int i5), (.long (i5.toInt64))])) _
  refine XS.i2l X12.here hx rfl (hb hby at_101) rfl ?_
  show Steps p.tables e below (T12.setTop (mkF m 102 #[.val (.int i0), .val (.int i1), .val (.long j2), .second, .val (.int i4), .val (.int i5), .val (.ref o6), .val (.ref o7), .val (.ref o8), .val (.ref b5), .val (.ref bq), .val (.ref b8), .unset, .unset, .unset] [(.long (i5.toInt64)), (.long (i5.toInt64))])) _
  refine XS.lcmp X12.here hx rfl (hb hby at_102) rfl ?_
  show Steps p.tables e below (T12.setTop (mkF m 103 #[.val (.int i0), .val (.int i1), .val (.long j2), .second, .val (.int i4), .val (.int i5), .val (.ref o6), .val (.ref o7), .val (.ref o8), .val (.ref b5), .val (.ref bq), .val (.ref b8), .unset, .unset, .unset] [(.int (lcmpW (i5.toInt64) (i5.toInt64)))])) _
  refine XS.ifNo X12.here hx rfl (hb hby at_103) rfl ((if0 _ _).trans (teq ((lw_eq _ _).mpr rfl : (lcmpW (i5.toInt64) (i5.toInt64)) = (0 : Int32))).2) ?_
  show Steps p.tables e below (T12.setTop (mkF m 106 #[.val (.int i0), .val (.int i1), .val (.long j2), .second, .val (.int i4), .val (.int i5), .val (.ref o6), .val (.ref o7), .val (.ref o8), .val (.ref b5), .val (.ref bq), .val (.ref b8), .unset, .unset, .unset] [])) _
  refine XS.iconst X12.here hx rfl (hb hby at_106) ?_
  show Steps p.tables e below (T12.setTop (mkF m 107 #[.val (.int i0), .val (.int i1), .val (.long j2), .second, .val (.int i4), .val (.int i5), .val (.ref o6), .val (.ref o7), .val (.ref o8), .val (.ref b5), .val (.ref bq), .val (.ref b8), .unset, .unset, .unset] [(.int (1 : Int32))])) _
  refine XS.goto X12.here hx rfl (pc0 := 107) (pc' := 111) rfl (hb hby at_107) (by decide) (by decide) ?_
  show Steps p.tables e below (T12.setTop (mkF m 111 #[.val (.int i0), .val (.int i1), .val (.long j2), .second, .val (.int i4), .val (.int i5), .val (.ref o6), .val (.ref o7), .val (.ref o8), .val (.ref b5), .val (.ref bq), .val (.ref b8), .unset, .unset, .unset] [(.int (1 : Int32))])) _
  refine XS.istore X12.here hx rfl (hb hby at_111) rfl (l' := #[.val (.int i0), .val (.int i1), .val (.long j2), .second, .val (.int i4), .val (.int i5), .val (.ref o6), .val (.ref o7), .val (.ref o8), .val (.ref b5), .val (.ref bq), .val (.ref b8), .val (.int (1 : Int32)), .unset, .unset]) rfl ?_
  show Steps p.tables e below (T12.setTop (mkF m 113 #[.val (.int i0), .val (.int i1), .val (.long j2), .second, .val (.int i4), .val (.int i5), .val (.ref o6), .val (.ref o7), .val (.ref o8), .val (.ref b5), .val (.ref bq), .val (.ref b8), .val (.int (1 : Int32)), .unset, .unset] [])) _
  refine XS.aload X12.here hx rfl (hb hby at_113) rfl rfl ?_
  show Steps p.tables e below (T12.setTop (mkF m 115 #[.val (.int i0), .val (.int i1), .val (.long j2), .second, .val (.int i4), .val (.int i5), .val (.ref o6), .val (.ref o7), .val (.ref o8), .val (.ref b5), .val (.ref bq), .val (.ref b8), .val (.int (1 : Int32)), .unset, .unset] [(.ref bq)])) _
  refine st13.trans ?_
  show Steps p.tables e below (T13.setTop (mkF m 118 #[.val (.int i0), .val (.int i1), .val (.long j2), .second, .val (.int i4), .val (.int i5), .val (.ref o6), .val (.ref o7), .val (.ref o8), .val (.ref b5), .val (.ref bq), .val (.ref b8), .val (.int (1 : Int32)), .unset, .unset] [(.long j2)])) _
  refine XS.lloadN X13.here hx rfl (hb hby at_118) rfl ?_
  show Steps p.tables e below (T13.setTop (mkF m 119 #[.val (.int i0), .val (.int i1), .val (.long j2), .second, .val (.int i4), .val (.int i5), .val (.ref o6), .val (.ref o7), .val (.ref o8), .val (.ref b5), .val (.ref bq), .val (.ref b8), .val (.int (1 : Int32)), .unset, .unset] [(.long j2), (.long j2)])) _
  refine XS.lcmp X13.here hx rfl (hb hby at_119) rfl ?_
  show Steps p.tables e below (T13.setTop (mkF m 120 #[.val (.int i0), .val (.int i1), .val (.long j2), .second, .val (.int i4), .val (.int i5), .val (.ref o6), .val (.ref o7), .val (.ref o8), .val (.ref b5), .val (.ref bq), .val (.ref b8), .val (.int (1 : Int32)), .unset, .unset] [(.int (lcmpW j2 j2))])) _
  refine XS.ifNo X13.here hx rfl (hb hby at_120) rfl ((if0 _ _).trans (teq ((lw_eq _ _).mpr rfl : (lcmpW j2 j2) = (0 : Int32))).2) ?_
  show Steps p.tables e below (T13.setTop (mkF m 123 #[.val (.int i0), .val (.int i1), .val (.long j2), .second, .val (.int i4), .val (.int i5), .val (.ref o6), .val (.ref o7), .val (.ref o8), .val (.ref b5), .val (.ref bq), .val (.ref b8), .val (.int (1 : Int32)), .unset, .unset] [])) _
  refine XS.iconst X13.here hx rfl (hb hby at_123) ?_
  show Steps p.tables e below (T13.setTop (mkF m 124 #[.val (.int i0), .val (.int i1), .val (.long j2), .second, .val (.int i4), .val (.int i5), .val (.ref o6), .val (.ref o7), .val (.ref o8), .val (.ref b5), .val (.ref bq), .val (.ref b8), .val (.int (1 : Int32)), .unset, .unset] [(.int (1 : Int32))])) _
  refine XS.goto X13.here hx rfl (pc0 := 124) (pc' := 128) rfl (hb hby at_124) (by decide) (by decide) ?_
  show Steps p.tables e below (T13.setTop (mkF m 128 #[.val (.int i0), .val (.int i1), .val (.long j2), .second, .val (.int i4), .val (.int i5), .val (.ref o6), .val (.ref o7), .val (.ref o8), .val (.ref b5), .val (.ref bq), .val (.ref b8), .val (.int (1 : Int32)), .unset, .unset] [(.int (1 : Int32))])) _
  refine XS.istore X13.here hx rfl (hb hby at_128) rfl (l' := #[.val (.int i0), .val (.int i1), .val (.long j2), .second, .val (.int i4), .val (.int i5), .val (.ref o6), .val (.ref o7), .val (.ref o8), .val (.ref b5), .val (.ref bq), .val (.ref b8), .val (.int (1 : Int32)), .val (.int (1 : Int32)), .unset]) rfl ?_
  show Steps p.tables e below (T13.setTop (mkF m 130 #[.val (.int i0), .val (.int i1), .val (.long j2), .second, .val (.int i4), .val (.int i5), .val (.ref o6), .val (.ref o7), .val (.ref o8), .val (.ref b5), .val (.ref bq), .val (.ref b8), .val (.int (1 : Int32)), .val (.int (1 : Int32)), .unset] [])) _
  refine XS.aload X13.here hx rfl (hb hby at_130) rfl rfl ?_
  show Steps p.tables e below (T13.setTop (mkF m 132 #[.val (.int i0), .val (.int i1), .val (.long j2), .second, .val (.int i4), .val (.int i5), .val (.ref o6), .val (.ref o7), .val (.ref o8), .val (.ref b5), .val (.ref bq), .val (.ref b8), .val (.int (1 : Int32)), .val (.int (1 : Int32)), .unset] [(.ref b8)])) _
  refine st14.trans ?_
  show Steps p.tables e below (T14.setTop (mkF m 135 #[.val (.int i0), .val (.int i1), .val (.long j2), .second, .val (.int i4), .val (.int i5), .val (.ref o6), .val (.ref o7), .val (.ref o8), .val (.ref b5), .val (.ref bq), .val (.ref b8), .val (.int (1 : Int32)), .val (.int (1 : Int32)), .unset] [(.long j2)])) _
  refine XS.lloadN X14.here hx rfl (hb hby at_135) rfl ?_
  show Steps p.tables e below (T14.setTop (mkF m 136 #[.val (.int i0), .val (.int i1), .val (.long j2), .second, .val (.int i4), .val (.int i5), .val (.ref o6), .val (.ref o7), .val (.ref o8), .val (.ref b5), .val (.ref bq), .val (.ref b8), .val (.int (1 : Int32)), .val (.int (1 : Int32)), .unset] [(.long j2), (.long j2)])) _
  refine XS.lcmp X14.here hx rfl (hb hby at_136) rfl ?_
  show Steps p.tables e below (T14.setTop (mkF m 137 #[.val (.int i0), .val (.int i1), .val (.long j2), .second, .val (.int i4), .val (.int i5), .val (.ref o6), .val (.ref o7), .val (.ref o8), .val (.ref b5), .val (.ref bq), .val (.ref b8), .val (.int (1 : Int32)), .val (.int (1 : Int32)), .unset] [(.int (lcmpW j2 j2))])) _
  refine XS.ifNo X14.here hx rfl (hb hby at_137) rfl ((if0 _ _).trans (teq ((lw_eq _ _).mpr rfl : (lcmpW j2 j2) = (0 : Int32))).2) ?_
  show Steps p.tables e below (T14.setTop (mkF m 140 #[.val (.int i0), .val (.int i1), .val (.long j2), .second, .val (.int i4), .val (.int i5), .val (.ref o6), .val (.ref o7), .val (.ref o8), .val (.ref b5), .val (.ref bq), .val (.ref b8), .val (.int (1 : Int32)), .val (.int (1 : Int32)), .unset] [])) _
  refine XS.iconst X14.here hx rfl (hb hby at_140) ?_
  show Steps p.tables e below (T14.setTop (mkF m 141 #[.val (.int i0), .val (.int i1), .val (.long j2), .second, .val (.int i4), .val (.int i5), .val (.ref o6), .val (.ref o7), .val (.ref o8), .val (.ref b5), .val (.ref bq), .val (.ref b8), .val (.int (1 : Int32)), .val (.int (1 : Int32)), .unset] [(.int (1 : Int32))])) _
  refine XS.goto X14.here hx rfl (pc0 := 141) (pc' := 145) rfl (hb hby at_141) (by decide) (by decide) ?_
  show Steps p.tables e below (T14.setTop (mkF m 145 #[.val (.int i0), .val (.int i1), .val (.long j2), .second, .val (.int i4), .val (.int i5), .val (.ref o6), .val (.ref o7), .val (.ref o8), .val (.ref b5), .val (.ref bq), .val (.ref b8), .val (.int (1 : Int32)), .val (.int (1 : Int32)), .unset] [(.int (1 : Int32))])) _
  refine XS.istore X14.here hx rfl (hb hby at_145) rfl (l' := #[.val (.int i0), .val (.int i1), .val (.long j2), .second, .val (.int i4), .val (.int i5), .val (.ref o6), .val (.ref o7), .val (.ref o8), .val (.ref b5), .val (.ref bq), .val (.ref b8), .val (.int (1 : Int32)), .val (.int (1 : Int32)), .val (.int (1 : Int32))]) rfl ?_
  show Steps p.tables e below (T14.setTop (mkF m 147 #[.val (.int i0), .val (.int i1), .val (.long j2), .second, .val (.int i4), .val (.int i5), .val (.ref o6), .val (.ref o7), .val (.ref o8), .val (.ref b5), .val (.ref bq), .val (.ref b8), .val (.int (1 : Int32)), .val (.int (1 : Int32)), .val (.int (1 : Int32))] [])) _
  refine XS.iload X14.here hx rfl (hb hby at_147) rfl ?_
  show Steps p.tables e below (T14.setTop (mkF m 149 #[.val (.int i0), .val (.int i1), .val (.long j2), .second, .val (.int i4), .val (.int i5), .val (.ref o6), .val (.ref o7), .val (.ref o8), .val (.ref b5), .val (.ref bq), .val (.ref b8), .val (.int (1 : Int32)), .val (.int (1 : Int32)), .val (.int (1 : Int32))] [(.int (1 : Int32))])) _
  refine XS.ifNo X14.here hx rfl (hb hby at_149) rfl ((if0 _ _).trans (feq hc149).1) ?_
  show Steps p.tables e below (T14.setTop (mkF m 152 #[.val (.int i0), .val (.int i1), .val (.long j2), .second, .val (.int i4), .val (.int i5), .val (.ref o6), .val (.ref o7), .val (.ref o8), .val (.ref b5), .val (.ref bq), .val (.ref b8), .val (.int (1 : Int32)), .val (.int (1 : Int32)), .val (.int (1 : Int32))] [])) _
  refine XS.iload X14.here hx rfl (hb hby at_152) rfl ?_
  show Steps p.tables e below (T14.setTop (mkF m 154 #[.val (.int i0), .val (.int i1), .val (.long j2), .second, .val (.int i4), .val (.int i5), .val (.ref o6), .val (.ref o7), .val (.ref o8), .val (.ref b5), .val (.ref bq), .val (.ref b8), .val (.int (1 : Int32)), .val (.int (1 : Int32)), .val (.int (1 : Int32))] [(.int (1 : Int32))])) _
  refine XS.ifNo X14.here hx rfl (hb hby at_154) rfl ((if0 _ _).trans (feq hc154).1) ?_
  show Steps p.tables e below (T14.setTop (mkF m 157 #[.val (.int i0), .val (.int i1), .val (.long j2), .second, .val (.int i4), .val (.int i5), .val (.ref o6), .val (.ref o7), .val (.ref o8), .val (.ref b5), .val (.ref bq), .val (.ref b8), .val (.int (1 : Int32)), .val (.int (1 : Int32)), .val (.int (1 : Int32))] [])) _
  refine XS.iload X14.here hx rfl (hb hby at_157) rfl ?_
  show Steps p.tables e below (T14.setTop (mkF m 159 #[.val (.int i0), .val (.int i1), .val (.long j2), .second, .val (.int i4), .val (.int i5), .val (.ref o6), .val (.ref o7), .val (.ref o8), .val (.ref b5), .val (.ref bq), .val (.ref b8), .val (.int (1 : Int32)), .val (.int (1 : Int32)), .val (.int (1 : Int32))] [(.int (1 : Int32))])) _
  refine XS.ifNo X14.here hx rfl (hb hby at_159) rfl ((if0 _ _).trans (feq hc159).1) ?_
  show Steps p.tables e below (T14.setTop (mkF m 162 #[.val (.int i0), .val (.int i1), .val (.long j2), .second, .val (.int i4), .val (.int i5), .val (.ref o6), .val (.ref o7), .val (.ref o8), .val (.ref b5), .val (.ref bq), .val (.ref b8), .val (.int (1 : Int32)), .val (.int (1 : Int32)), .val (.int (1 : Int32))] [])) _
  refine XS.iconst X14.here hx rfl (hb hby at_162) ?_
  show Steps p.tables e below (T14.setTop (mkF m 163 #[.val (.int i0), .val (.int i1), .val (.long j2), .second, .val (.int i4), .val (.int i5), .val (.ref o6), .val (.ref o7), .val (.ref o8), .val (.ref b5), .val (.ref bq), .val (.ref b8), .val (.int (1 : Int32)), .val (.int (1 : Int32)), .val (.int (1 : Int32))] [(.int (1 : Int32))])) _
  refine XS.goto X14.here hx rfl (pc0 := 163) (pc' := 167) rfl (hb hby at_163) (by decide) (by decide) ?_
  exact kt
set_option maxRecDepth 65536 in
set_option maxHeartbeats 40000000 in
theorem sgZ_n {p : Program} {l : Launch} {e : Env} {s : State} {m : MethodId} {args : Array Value} {below : List Frame} {meth : Method} {c : Code} {T0 : State} {locs : List Loc} {Z : State} {a0 : Array Value} {h0 : Heap} {n0 : Nat} (i0 : Int32) (i1 : Int32) (j2 : Int64) (i4 : Int32) (i5 : Int32) (o6 : Addr) (o8 : Addr)
    (X0 : Stand p l e room_1 s m args below meth c T0 locs 5 200) (hx : p.tables.exec = Jvm.exec) (hZ : Z.Warmed39 s.vm) (hw : ∀ d ∈ tables_1, d.before a0 Z = true) (hby : c.code = code) (hml : c.maxLocals = 15) (hown : s.vm.findClass "com/example/cell5/cell5/http/ReplyLengthPinLaw" = some m.cls) (e0 : T0.heap = h0) (Z0 : n0 ≤ h0.size) (N0 : Fr n0 locs) {k7 : ClassId} {vs7 : List Value} {d7 : Value} (V : Arv Z h0 o6 k7 .byte i5 vs7 d7) (hc149 : ¬ ((1 : Int32) = (0 : Int32))) (hc154 : ¬ ((1 : Int32) = (0 : Int32))) (hc159 : ¬ ((1 : Int32) = (0 : Int32))) :
    ∃ (T' : State) (h' : Heap) (locs' : List Loc) (Ls : Array Slot), Stand p l e room_1 s m args below meth c T' locs' 11 219 ∧ T'.heap = h' ∧ Fr n0 locs' ∧ Keep h0 h' [] ∧
      ∀ target, Steps p.tables e below (T'.setTop (mkF m 167 Ls [(.int (1 : Int32))])) target → Steps p.tables e below (T0.setTop (mkF m 43 #[.val (.int i0), .val (.int i1), .val (.long j2), .second, .val (.int i4), .val (.int i5), .val (.ref o6), .val .null, .val (.ref o8), .unset, .unset, .unset, .unset, .unset, .unset] [])) target := by
  obtain ⟨T5, h5, X5, e5, E5, A5, D5, -, st5⟩ := newO X0 hx hZ hown (hw _ (List.mem_of_getElem? (i := 9) rfl)) (hw _ (List.mem_of_getElem? (i := 10) rfl)) (hw _ (List.mem_of_getElem? (i := 11) rfl)) e0 (g := (mkF m 43 #[.val (.int i0), .val (.int i1), .val (.long j2), .second, .val (.int i4), .val (.int i5), .val (.ref o6), .val .null, .val (.ref o8), .unset, .unset, .unset, .unset, .unset, .unset] [])) rfl (hb hby at_43) (by decide) (by decide)
  obtain ⟨b5, g5⟩ : ∃ z, z = h0.size := ⟨_, rfl⟩
  rw [← g5] at A5 D5 st5
  have F_status_b5 : Fld Z h5 b5 "com/example/cell5/cell5/http/Reply" "status" "I" (.int (0 : Int32)) := D5 (Or.inr (hw _ (List.mem_of_getElem? (i := 27) rfl))) (ty := .int) (by decide)
  have F_body_b5 : Fld Z h5 b5 "com/example/cell5/cell5/http/Reply" "body" "[B" .null := D5 (Or.inr (hw _ (List.mem_of_getElem? (i := 29) rfl))) (ty := (.array .byte)) (by decide)
  have F_location_b5 : Fld Z h5 b5 "com/example/cell5/cell5/http/Reply" "location" "Ljava/lang/String;" .null := D5 (Or.inr (hw _ (List.mem_of_getElem? (i := 31) rfl))) (ty := (.object "java/lang/String")) (by decide)
  have F_type_b5 : Fld Z h5 b5 "com/example/cell5/cell5/http/Reply" "type" "Ljava/lang/String;" .null := D5 (Or.inr (hw _ (List.mem_of_getElem? (i := 33) rfl))) (ty := (.object "java/lang/String")) (by decide)
  have F_streamed_b5 : Fld Z h5 b5 "com/example/cell5/cell5/http/Reply" "streamed" "Lcom/example/cell5/cell5/http/Reply$Streamed;" .null := D5 (Or.inr (hw _ (List.mem_of_getElem? (i := 35) rfl))) (ty := (.object "com/example/cell5/cell5/http/Reply$Streamed")) (by decide)
  have E_b5 := A5
  have g_b5 : n0 ≤ b5 := Nat.le_trans Z0 (Nat.le_of_eq g5.symm)
  have sz_b5 : h0.size ≤ b5 := (Nat.le_trans (Keep.refl h0 []).1 (Nat.le_of_eq g5.symm))
  have K5 : Keep h0 h5 [] := (Keep.refl h0 []).ext E5
  obtain ⟨_, _, ⟨T6, L6, k6, n6⟩, -, X6, ⟨Lc6, hQ6, l6, y6, z6⟩, st6⟩ := X5.specialBack hx (y := (⟨"com/example/cell5/cell5/http/Reply", "<init>", "(I[BLjava/lang/String;Ljava/lang/String;)V"⟩ : MethodName)) rfl hown (mvT hZ (hw _ (List.mem_of_getElem? (i := 12) rfl))) (mvT hZ (hw _ (List.mem_of_getElem? (i := 13) rfl))) (mvT hZ (hw _ (List.mem_of_getElem? (i := 14) rfl))) (by decide) (backOf (W := 1) (rm1_3 l Z a0 hw [] b5 i0 o6 o8 h5 n0 (Nat.le_trans Z0 K5.1) ⟨E_b5, ⟨_, F_status_b5⟩, ⟨_, F_body_b5⟩, ⟨_, F_location_b5⟩, ⟨_, F_type_b5⟩, ⟨_, F_streamed_b5⟩⟩ g_b5) hZ (hw _ (List.mem_of_getElem? (i := 14) rfl)) (hw _ (List.mem_of_getElem? (i := 11) rfl)) (by decide) (by decide)) (g := (mkF m 54 #[.val (.int i0), .val (.int i1), .val (.long j2), .second, .val (.int i4), .val (.int i5), .val (.ref o6), .val .null, .val (.ref o8), .unset, .unset, .unset, .unset, .unset, .unset] [(.ref o8), .null, (.ref o6), (.int i0), (.ref b5), (.ref b5)])) rfl (by rw [hml]; rfl) (Steps.refl _) (a := b5) (argsL := [(.int i0), (.ref o6), .null, (.ref o8)]) (rest := [(.ref b5)]) (lenOf pd_0_0 rfl) rfl (by show 2 * 0 + _ ≤ _; exact Nat.le_of_eq rfl) (hb hby at_54) (fun _ _ => ⟨rfl, e5, (Nat.le_of_ble_eq_true rfl), (Nat.le_of_ble_eq_true rfl)⟩)
  dsimp only [Pt.U, Pt.locs, Pt.cells, Pt.slots] at X6 l6 y6 z6 st6 hQ6
  subst l6 y6 z6
  obtain ⟨rfl, N6q, Kq6, B1_6⟩ := hQ6
  have K6 : Keep h0 T6.heap [] := K5.trans Kq6 (fun x hx => by cases List.mem_singleton.mp hx; exact Or.inr sz_b5)
  have V_6 := (V.ext E5).keep Kq6 (own_nin (own_lt V.lt g5))
  have N6 := Fr.app N0 N6q
  obtain ⟨_, _, ⟨T7, L7, k7, n7⟩, -, X7, ⟨Lc7, hQ7, l7, y7, z7⟩, st7⟩ := Jvm.LawKit.callS X6 hx (y := (⟨"com/example/cell5/cell5/http/Reply", "streamed", "(ILjava/lang/String;JLjava/io/InputStream;)Lcom/example/cell5/cell5/http/Reply;"⟩ : MethodName)) hown (mvT hZ (hw _ (List.mem_of_getElem? (i := 36) rfl))) (mvT hZ (hw _ (List.mem_of_getElem? (i := 37) rfl))) (mvT hZ (hw _ (List.mem_of_getElem? (i := 11) rfl))) (mvT hZ (hw _ (List.mem_of_getElem? (i := 38) rfl))) (by decide) (backOf (W := 0) (rm5 l Z a0 hw [] i0 o8 j2 T6.heap n0 (Nat.le_trans Z0 K6.1)) hZ (hw _ (List.mem_of_getElem? (i := 38) rfl)) (hw _ (List.mem_of_getElem? (i := 11) rfl)) (by decide) (by decide)) (g := (mkF m 64 #[.val (.int i0), .val (.int i1), .val (.long j2), .second, .val (.int i4), .val (.int i5), .val (.ref o6), .val .null, .val (.ref o8), .val (.ref b5), .unset, .unset, .unset, .unset, .unset] [.null, (.long j2), (.ref o8), (.int i0)])) rfl (by rw [hml]; rfl) (argsL := [(.int i0), (.ref o8), (.long j2), .null]) (rest := []) (lenOf pd_0_3 rfl) rfl (by show 2 * 0 + _ ≤ _; exact Nat.le_of_eq rfl) (hb hby at_64) (fun _ _ => ⟨rfl, rfl, (Nat.le_of_ble_eq_true rfl), (Nat.le_of_ble_eq_true rfl)⟩)
  dsimp only [Pt.U, Pt.locs, Pt.cells, Pt.slots] at X7 l7 y7 z7 st7 hQ7
  subst l7 y7 z7
  obtain ⟨bq, sq, bbq, rfl, N7q, Kq7, B2_7, D2_7⟩ := hQ7
  have K7 : Keep h0 T7.heap [] := K6.trans Kq7 (fun _ q => nomatch q)
  have V_7 := V_6.keep Kq7 List.not_mem_nil
  have B1_7 := B1_6.keep Kq7 List.not_mem_nil
  have N7 := Fr.app N6 N7q
  obtain ⟨T8, h8, X8, e8, E8, A8, D8, -, st8⟩ := newO X7 hx hZ hown (hw _ (List.mem_of_getElem? (i := 9) rfl)) (hw _ (List.mem_of_getElem? (i := 10) rfl)) (hw _ (List.mem_of_getElem? (i := 11) rfl)) rfl (g := (mkF m 69 #[.val (.int i0), .val (.int i1), .val (.long j2), .second, .val (.int i4), .val (.int i5), .val (.ref o6), .val .null, .val (.ref o8), .val (.ref b5), .val (.ref bq), .unset, .unset, .unset, .unset] [])) rfl (hb hby at_69) (by decide) (by decide)
  obtain ⟨b8, g8⟩ : ∃ z, z = T7.heap.size := ⟨_, rfl⟩
  rw [← g8] at A8 D8 st8
  have F_status_b8 : Fld Z h8 b8 "com/example/cell5/cell5/http/Reply" "status" "I" (.int (0 : Int32)) := D8 (Or.inr (hw _ (List.mem_of_getElem? (i := 27) rfl))) (ty := .int) (by decide)
  have F_body_b8 : Fld Z h8 b8 "com/example/cell5/cell5/http/Reply" "body" "[B" .null := D8 (Or.inr (hw _ (List.mem_of_getElem? (i := 29) rfl))) (ty := (.array .byte)) (by decide)
  have F_location_b8 : Fld Z h8 b8 "com/example/cell5/cell5/http/Reply" "location" "Ljava/lang/String;" .null := D8 (Or.inr (hw _ (List.mem_of_getElem? (i := 31) rfl))) (ty := (.object "java/lang/String")) (by decide)
  have F_type_b8 : Fld Z h8 b8 "com/example/cell5/cell5/http/Reply" "type" "Ljava/lang/String;" .null := D8 (Or.inr (hw _ (List.mem_of_getElem? (i := 33) rfl))) (ty := (.object "java/lang/String")) (by decide)
  have F_streamed_b8 : Fld Z h8 b8 "com/example/cell5/cell5/http/Reply" "streamed" "Lcom/example/cell5/cell5/http/Reply$Streamed;" .null := D8 (Or.inr (hw _ (List.mem_of_getElem? (i := 35) rfl))) (ty := (.object "com/example/cell5/cell5/http/Reply$Streamed")) (by decide)
  have E_b8 := A8
  have g_b8 : n0 ≤ b8 := Nat.le_trans (Nat.le_trans (Nat.le_trans (Nat.le_trans Z0 E5.1) Kq6.1) Kq7.1) (Nat.le_of_eq g8.symm)
  have sz_b8 : h0.size ≤ b8 := (Nat.le_trans K7.1 (Nat.le_of_eq g8.symm))
  have K8 : Keep h0 h8 [] := K7.ext E8
  obtain ⟨T9, h9, X9, e9, E9, A9, D9, -, st9⟩ := newO X8 hx hZ hown (hw _ (List.mem_of_getElem? (i := 51) rfl)) (hw _ (List.mem_of_getElem? (i := 41) rfl)) (hw _ (List.mem_of_getElem? (i := 42) rfl)) e8 (g := (mkF m 80 #[.val (.int i0), .val (.int i1), .val (.long j2), .second, .val (.int i4), .val (.int i5), .val (.ref o6), .val .null, .val (.ref o8), .val (.ref b5), .val (.ref bq), .unset, .unset, .unset, .unset] [(.ref o8), .null, (.ref o6), (.int i0), (.ref b8), (.ref b8)])) rfl (hb hby at_80) (by decide) (by decide)
  obtain ⟨b9, g9⟩ : ∃ z, z = h8.size := ⟨_, rfl⟩
  rw [← g9] at A9 D9 st9
  have F_length_b9 : Fld Z h9 b9 "com/example/cell5/cell5/http/Reply$Streamed" "length" "J" (.long (0 : Int64)) := D9 (Or.inr (hw _ (List.mem_of_getElem? (i := 48) rfl))) (ty := .long) (by decide)
  have F_bytes_b9 : Fld Z h9 b9 "com/example/cell5/cell5/http/Reply$Streamed" "bytes" "Ljava/io/InputStream;" .null := D9 (Or.inr (hw _ (List.mem_of_getElem? (i := 50) rfl))) (ty := (.object "java/io/InputStream")) (by decide)
  have E_b9 := A9
  have g_b9 : n0 ≤ b9 := Nat.le_trans (Nat.le_trans (Nat.le_trans (Nat.le_trans (Nat.le_trans Z0 E5.1) Kq6.1) Kq7.1) E8.1) (Nat.le_of_eq g9.symm)
  have sz_b9 : h0.size ≤ b9 := (Nat.le_trans K8.1 (Nat.le_of_eq g9.symm))
  have K9 : Keep h0 h9 [] := K8.ext E9
  obtain ⟨_, _, ⟨T10, L10, k10, n10⟩, -, X10, ⟨Lc10, hQ10, l10, y10, z10⟩, st10⟩ := X9.specialBack hx (y := (⟨"com/example/cell5/cell5/http/Reply$Streamed", "<init>", "(JLjava/io/InputStream;)V"⟩ : MethodName)) rfl hown (mvT hZ (hw _ (List.mem_of_getElem? (i := 52) rfl))) (mvT hZ (hw _ (List.mem_of_getElem? (i := 44) rfl))) (mvT hZ (hw _ (List.mem_of_getElem? (i := 45) rfl))) (by decide) (backOf (W := 7) (rm6 l Z a0 hw [] b9 j2 _ _ h9 n0 (Nat.le_trans Z0 K9.1) E_b9 F_length_b9 g_b9 F_bytes_b9) hZ (hw _ (List.mem_of_getElem? (i := 45) rfl)) (hw _ (List.mem_of_getElem? (i := 42) rfl)) (by decide) (by decide)) (g := (mkF m 86 #[.val (.int i0), .val (.int i1), .val (.long j2), .second, .val (.int i4), .val (.int i5), .val (.ref o6), .val .null, .val (.ref o8), .val (.ref b5), .val (.ref bq), .unset, .unset, .unset, .unset] [.null, (.long j2), (.ref b9), (.ref b9), (.ref o8), .null, (.ref o6), (.int i0), (.ref b8), (.ref b8)])) rfl (by rw [hml]; rfl) (Steps.refl _) (a := b9) (argsL := [(.long j2), .null]) (rest := [(.ref b9), (.ref o8), .null, (.ref o6), (.int i0), (.ref b8), (.ref b8)]) (lenOf pd_0_4 rfl) rfl (by show 2 * 0 + _ ≤ _; exact Nat.le_of_eq rfl) (hb hby at_86) (fun _ _ => ⟨rfl, e9, (Nat.le_of_ble_eq_true rfl), (Nat.le_of_ble_eq_true rfl)⟩)
  dsimp only [Pt.U, Pt.locs, Pt.cells, Pt.slots] at X10 l10 y10 z10 st10 hQ10
  subst l10 y10 z10
  obtain ⟨rfl, N10q, Kq10, D3_10⟩ := hQ10
  have K10 : Keep h0 T10.heap [] := K9.trans Kq10 (fun x hx => by cases List.mem_singleton.mp hx; exact Or.inr sz_b9)
  have ne_1_2 := own_lt B1_7.1.lt g8
  have ne_1_3 := own_lt (B1_7.ext E8).1.lt g9
  have ne_b_2 := own_lt B2_7.1.lt g8
  have ne_b_3 := own_lt (B2_7.ext E8).1.lt g9
  have ne_s_2 := own_lt D2_7.1.lt g8
  have ne_s_3 := own_lt (D2_7.ext E8).1.lt g9
  have ne_v_2 := own_lt V_7.lt g8
  have ne_v_3 := own_lt (V_7.ext E8).lt g9
  have ne_2_3 := own_lt E_b8.lt g9
  have V_10 := ((V_7.ext E8).ext E9).keep Kq10 (own_nin ne_v_3)
  have B1_10 := ((B1_7.ext E8).ext E9).keep Kq10 (own_nin ne_1_3)
  have B2_10 := ((B2_7.ext E8).ext E9).keep Kq10 (own_nin ne_b_3)
  have D2_10 := ((D2_7.ext E8).ext E9).keep Kq10 (own_nin ne_s_3)
  have Bf : RF Z h8 b8 := ⟨E_b8, ⟨_, F_status_b8⟩, ⟨_, F_body_b8⟩, ⟨_, F_location_b8⟩, ⟨_, F_type_b8⟩, ⟨_, F_streamed_b8⟩⟩
  have Bg := (Bf.ext E9).keep Kq10 (own_nin ne_2_3)
  have N10 := Fr.app N7 N10q
  obtain ⟨_, _, ⟨T11, L11, k11, n11⟩, -, X11, ⟨Lc11, hQ11, l11, y11, z11⟩, st11⟩ := X10.specialBack hx (y := (⟨"com/example/cell5/cell5/http/Reply", "<init>", "(I[BLjava/lang/String;Ljava/lang/String;Lcom/example/cell5/cell5/http/Reply$Streamed;)V"⟩ : MethodName)) rfl hown (mvT hZ (hw _ (List.mem_of_getElem? (i := 53) rfl))) (mvT hZ (hw _ (List.mem_of_getElem? (i := 16) rfl))) (mvT hZ (hw _ (List.mem_of_getElem? (i := 17) rfl))) (by decide) (backOf (W := 1) (rm2 l Z a0 hw [] b8 i0 o6 .null o8 (.ref b9) T10.heap n0 (Nat.le_trans Z0 K10.1) rfl rfl Bg g_b8) hZ (hw _ (List.mem_of_getElem? (i := 17) rfl)) (hw _ (List.mem_of_getElem? (i := 11) rfl)) (by decide) (by decide)) (g := (mkF m 89 #[.val (.int i0), .val (.int i1), .val (.long j2), .second, .val (.int i4), .val (.int i5), .val (.ref o6), .val .null, .val (.ref o8), .val (.ref b5), .val (.ref bq), .unset, .unset, .unset, .unset] [(.ref b9), (.ref o8), .null, (.ref o6), (.int i0), (.ref b8), (.ref b8)])) rfl (by rw [hml]; rfl) (Steps.refl _) (a := b8) (argsL := [(.int i0), (.ref o6), .null, (.ref o8), (.ref b9)]) (rest := [(.ref b8)]) (lenOf pd_0_1 rfl) rfl (by show 2 * 0 + _ ≤ _; exact Nat.le_of_eq rfl) (hb hby at_89) (fun _ _ => ⟨rfl, rfl, (Nat.le_of_ble_eq_true rfl), (Nat.le_of_ble_eq_true rfl)⟩)
  dsimp only [Pt.U, Pt.locs, Pt.cells, Pt.slots] at X11 l11 y11 z11 st11 hQ11
  subst l11 y11 z11
  obtain ⟨rfl, N11q, Kq11, B3_11⟩ := hQ11
  have K11 : Keep h0 T11.heap [] := K10.trans Kq11 (fun x hx => by cases List.mem_singleton.mp hx; exact Or.inr sz_b8)
  have V_11 := V_10.keep Kq11 (own_nin ne_v_2)
  have B1_11 := B1_10.keep Kq11 (own_nin ne_1_2)
  have B2_11 := B2_10.keep Kq11 (own_nin ne_b_2)
  have D2_11 := D2_10.keep Kq11 (own_nin ne_s_2)
  have D3_11 := D3_10.keep Kq11 (own_nin ne_2_3.symm)
  have N11 := Fr.app N10 N11q
  obtain ⟨cl7, Ar7, -, S7, N7v, -, -⟩ := V_11
  obtain ⟨cq12, kq12, q12a, q12b, q12c⟩ := isOf hZ rfl B1_11.1
  obtain ⟨_, _, ⟨T12, L12, k12, n12⟩, -, X12, ⟨Lc12, hQ12, l12, y12, z12⟩, st12⟩ := X11.virtualBack hx (y := (⟨"com/example/cell5/cell5/http/Reply", "length", "()J"⟩ : MethodName)) (z := (⟨"com/example/cell5/cell5/http/Reply", "length", "()J"⟩ : MethodName)) hown (mvT hZ (hw _ (List.mem_of_getElem? (i := 54) rfl))) (mvT hZ (hw _ (List.mem_of_getElem? (i := 55) rfl))) (notFace_of_selects (args := #[]) (mvT hZ (hw _ (List.mem_of_getElem? (i := 57) rfl)))) (mvT hZ (hw _ (List.mem_of_getElem? (i := 57) rfl))) (mvT hZ (hw _ (List.mem_of_getElem? (i := 56) rfl))) (by decide) (backOf (W := 0) (rm7_n l Z a0 hw [] b5 o6 cl7 i5 T11.heap n0 (Nat.le_trans Z0 K11.1) B1_11.2.2 B1_11.2.1 Ar7 S7 N7v) hZ (hw _ (List.mem_of_getElem? (i := 58) rfl)) (hw _ (List.mem_of_getElem? (i := 11) rfl)) (by decide) (by decide)) q12a q12c (g := (mkF m 96 #[.val (.int i0), .val (.int i1), .val (.long j2), .second, .val (.int i4), .val (.int i5), .val (.ref o6), .val .null, .val (.ref o8), .val (.ref b5), .val (.ref bq), .val (.ref b8), .unset, .unset, .unset] [(.ref b5)])) rfl (by rw [hml]; rfl) (Steps.refl _) (argsL := []) (rest := []) (lenOf pd_0_5 rfl) rfl (by show 2 * 0 + _ ≤ _; exact Nat.le_of_eq rfl) (hb hby at_96) (fun _ _ => ⟨rfl, rfl, (Nat.le_of_ble_eq_true rfl), (Nat.le_of_ble_eq_true rfl)⟩)
  dsimp only [Pt.U, Pt.locs, Pt.cells, Pt.slots] at X12 l12 y12 z12 st12 hQ12
  subst l12 y12 z12
  obtain ⟨rfl, N12q, h12q⟩ := hQ12
  have Kq12 : Keep T11.heap T12.heap [] := by rw [h12q]; exact Keep.refl _ _
  have K12 : Keep h0 T12.heap [] := K11.trans Kq12 (fun _ q => nomatch q)
  have B2_12 := B2_11.keep Kq12 List.not_mem_nil
  have D2_12 := D2_11.keep Kq12 List.not_mem_nil
  have B3_12 := B3_11.keep Kq12 List.not_mem_nil
  have D3_12 := D3_11.keep Kq12 List.not_mem_nil
  have N12 := Fr.app N11 N12q
  obtain ⟨cq13, kq13, q13a, q13b, q13c⟩ := isOf hZ rfl B2_12.1
  obtain ⟨_, _, ⟨T13, L13, k13, n13⟩, -, X13, ⟨Lc13, hQ13, l13, y13, z13⟩, st13⟩ := X12.virtualBack hx (y := (⟨"com/example/cell5/cell5/http/Reply", "length", "()J"⟩ : MethodName)) (z := (⟨"com/example/cell5/cell5/http/Reply", "length", "()J"⟩ : MethodName)) hown (mvT hZ (hw _ (List.mem_of_getElem? (i := 54) rfl))) (mvT hZ (hw _ (List.mem_of_getElem? (i := 55) rfl))) (notFace_of_selects (args := #[]) (mvT hZ (hw _ (List.mem_of_getElem? (i := 57) rfl)))) (mvT hZ (hw _ (List.mem_of_getElem? (i := 57) rfl))) (mvT hZ (hw _ (List.mem_of_getElem? (i := 56) rfl))) (by decide) (backOf (W := 0) (rm7_s l Z a0 hw [] bq sq T12.heap n0 (Nat.le_trans Z0 K12.1) B2_12.2.2 j2 D2_12) hZ (hw _ (List.mem_of_getElem? (i := 58) rfl)) (hw _ (List.mem_of_getElem? (i := 11) rfl)) (by decide) (by decide)) q13a q13c (g := (mkF m 115 #[.val (.int i0), .val (.int i1), .val (.long j2), .second, .val (.int i4), .val (.int i5), .val (.ref o6), .val .null, .val (.ref o8), .val (.ref b5), .val (.ref bq), .val (.ref b8), .val (.int (1 : Int32)), .unset, .unset] [(.ref bq)])) rfl (by rw [hml]; rfl) (Steps.refl _) (argsL := []) (rest := []) (lenOf pd_0_5 rfl) rfl (by show 2 * 0 + _ ≤ _; exact Nat.le_of_eq rfl) (hb hby at_115) (fun _ _ => ⟨rfl, rfl, (Nat.le_of_ble_eq_true rfl), (Nat.le_of_ble_eq_true rfl)⟩)
  dsimp only [Pt.U, Pt.locs, Pt.cells, Pt.slots] at X13 l13 y13 z13 st13 hQ13
  subst l13 y13 z13
  obtain ⟨rfl, N13q, h13q⟩ := hQ13
  have Kq13 : Keep T12.heap T13.heap [] := by rw [h13q]; exact Keep.refl _ _
  have K13 : Keep h0 T13.heap [] := K12.trans Kq13 (fun _ q => nomatch q)
  have B2_13 := B2_12.keep Kq13 List.not_mem_nil
  have D2_13 := D2_12.keep Kq13 List.not_mem_nil
  have B3_13 := B3_12.keep Kq13 List.not_mem_nil
  have D3_13 := D3_12.keep Kq13 List.not_mem_nil
  have N13 := Fr.app N12 N13q
  obtain ⟨cq14, kq14, q14a, q14b, q14c⟩ := isOf hZ rfl B3_13.1
  obtain ⟨_, _, ⟨T14, L14, k14, n14⟩, -, X14, ⟨Lc14, hQ14, l14, y14, z14⟩, st14⟩ := X13.virtualBack hx (y := (⟨"com/example/cell5/cell5/http/Reply", "length", "()J"⟩ : MethodName)) (z := (⟨"com/example/cell5/cell5/http/Reply", "length", "()J"⟩ : MethodName)) hown (mvT hZ (hw _ (List.mem_of_getElem? (i := 54) rfl))) (mvT hZ (hw _ (List.mem_of_getElem? (i := 55) rfl))) (notFace_of_selects (args := #[]) (mvT hZ (hw _ (List.mem_of_getElem? (i := 57) rfl)))) (mvT hZ (hw _ (List.mem_of_getElem? (i := 57) rfl))) (mvT hZ (hw _ (List.mem_of_getElem? (i := 56) rfl))) (by decide) (backOf (W := 0) (rm7_s l Z a0 hw [] b8 b9 T13.heap n0 (Nat.le_trans Z0 K13.1) B3_13.2.2 j2 D3_13) hZ (hw _ (List.mem_of_getElem? (i := 58) rfl)) (hw _ (List.mem_of_getElem? (i := 11) rfl)) (by decide) (by decide)) q14a q14c (g := (mkF m 132 #[.val (.int i0), .val (.int i1), .val (.long j2), .second, .val (.int i4), .val (.int i5), .val (.ref o6), .val .null, .val (.ref o8), .val (.ref b5), .val (.ref bq), .val (.ref b8), .val (.int (1 : Int32)), .val (.int (1 : Int32)), .unset] [(.ref b8)])) rfl (by rw [hml]; rfl) (Steps.refl _) (argsL := []) (rest := []) (lenOf pd_0_5 rfl) rfl (by show 2 * 0 + _ ≤ _; exact Nat.le_of_eq rfl) (hb hby at_132) (fun _ _ => ⟨rfl, rfl, (Nat.le_of_ble_eq_true rfl), (Nat.le_of_ble_eq_true rfl)⟩)
  dsimp only [Pt.U, Pt.locs, Pt.cells, Pt.slots] at X14 l14 y14 z14 st14 hQ14
  subst l14 y14 z14
  obtain ⟨rfl, N14q, h14q⟩ := hQ14
  have Kq14 : Keep T13.heap T14.heap [] := by rw [h14q]; exact Keep.refl _ _
  have K14 : Keep h0 T14.heap [] := K13.trans Kq14 (fun _ q => nomatch q)
  have B2_14 := B2_13.keep Kq14 List.not_mem_nil
  have D2_14 := D2_13.keep Kq14 List.not_mem_nil
  have B3_14 := B3_13.keep Kq14 List.not_mem_nil
  have D3_14 := D3_13.keep Kq14 List.not_mem_nil
  have N14 := Fr.app N13 N14q
  refine ⟨T14, _, _, #[.val (.int i0), .val (.int i1), .val (.long j2), .second, .val (.int i4), .val (.int i5), .val (.ref o6), .val .null, .val (.ref o8), .val (.ref b5), .val (.ref bq), .val (.ref b8), .val (.int (1 : Int32)), .val (.int (1 : Int32)), .val (.int (1 : Int32))], X14, rfl, N14, K14, fun target kt => ?_⟩
  show Steps p.tables e below (T0.setTop (mkF m 43 #[.val (.int i0), .val (.int i1), .val (.long j2), .second, .val (.int i4), .val (.int i5), .val (.ref o6), .val .null, .val (.ref o8), .unset, .unset, .unset, .unset, .unset, .unset] [])) _
  refine st5 _ ?_
  show Steps p.tables e below (T5.setTop (mkF m 46 #[.val (.int i0), .val (.int i1), .val (.long j2), .second, .val (.int i4), .val (.int i5), .val (.ref o6), .val .null, .val (.ref o8), .unset, .unset, .unset, .unset, .unset, .unset] [(.ref b5)])) _
  refine XS.dup X5.here hx rfl (hb hby at_46) rfl rfl ?_
  show Steps p.tables e below (T5.setTop (mkF m 47 #[.val (.int i0), .val (.int i1), .val (.long j2), .second, .val (.int i4), .val (.int i5), .val (.ref o6), .val .null, .val (.ref o8), .unset, .unset, .unset, .unset, .unset, .unset] [(.ref b5), (.ref b5)])) _
  refine XS.iloadN X5.here hx rfl (hb hby at_47) rfl ?_
  show Steps p.tables e below (T5.setTop (mkF m 48 #[.val (.int i0), .val (.int i1), .val (.long j2), .second, .val (.int i4), .val (.int i5), .val (.ref o6), .val .null, .val (.ref o8), .unset, .unset, .unset, .unset, .unset, .unset] [(.int i0), (.ref b5), (.ref b5)])) _
  refine XS.aload X5.here hx rfl (hb hby at_48) rfl rfl ?_
  show Steps p.tables e below (T5.setTop (mkF m 50 #[.val (.int i0), .val (.int i1), .val (.long j2), .second, .val (.int i4), .val (.int i5), .val (.ref o6), .val .null, .val (.ref o8), .unset, .unset, .unset, .unset, .unset, .unset] [(.ref o6), (.int i0), (.ref b5), (.ref b5)])) _
  refine XS.aload X5.here hx rfl (hb hby at_50) rfl rfl ?_
  show Steps p.tables e below (T5.setTop (mkF m 52 #[.val (.int i0), .val (.int i1), .val (.long j2), .second, .val (.int i4), .val (.int i5), .val (.ref o6), .val .null, .val (.ref o8), .unset, .unset, .unset, .unset, .unset, .unset] [.null, (.ref o6), (.int i0), (.ref b5), (.ref b5)])) _
  refine XS.aload X5.here hx rfl (hb hby at_52) rfl rfl ?_
  show Steps p.tables e below (T5.setTop (mkF m 54 #[.val (.int i0), .val (.int i1), .val (.long j2), .second, .val (.int i4), .val (.int i5), .val (.ref o6), .val .null, .val (.ref o8), .unset, .unset, .unset, .unset, .unset, .unset] [(.ref o8), .null, (.ref o6), (.int i0), (.ref b5), (.ref b5)])) _
  refine st6.trans ?_
  show Steps p.tables e below (T6.setTop (mkF m 57 #[.val (.int i0), .val (.int i1), .val (.long j2), .second, .val (.int i4), .val (.int i5), .val (.ref o6), .val .null, .val (.ref o8), .unset, .unset, .unset, .unset, .unset, .unset] [(.ref b5)])) _
  refine XS.astore X6.here hx rfl (hb hby at_57) rfl rfl (l' := #[.val (.int i0), .val (.int i1), .val (.long j2), .second, .val (.int i4), .val (.int i5), .val (.ref o6), .val .null, .val (.ref o8), .val (.ref b5), .unset, .unset, .unset, .unset, .unset]) rfl ?_
  show Steps p.tables e below (T6.setTop (mkF m 59 #[.val (.int i0), .val (.int i1), .val (.long j2), .second, .val (.int i4), .val (.int i5), .val (.ref o6), .val .null, .val (.ref o8), .val (.ref b5), .unset, .unset, .unset, .unset, .unset] [])) _
  refine XS.iloadN X6.here hx rfl (hb hby at_59) rfl ?_
  show Steps p.tables e below (T6.setTop (mkF m 60 #[.val (.int i0), .val (.int i1), .val (.long j2), .second, .val (.int i4), .val (.int i5), .val (.ref o6), .val .null, .val (.ref o8), .val (.ref b5), .unset, .unset, .unset, .unset, .unset] [(.int i0)])) _
  refine XS.aload X6.here hx rfl (hb hby at_60) rfl rfl ?_
  show Steps p.tables e below (T6.setTop (mkF m 62 #[.val (.int i0), .val (.int i1), .val (.long j2), .second, .val (.int i4), .val (.int i5), .val (.ref o6), .val .null, .val (.ref o8), .val (.ref b5), .unset, .unset, .unset, .unset, .unset] [(.ref o8), (.int i0)])) _
  refine XS.lloadN X6.here hx rfl (hb hby at_62) rfl ?_
  show Steps p.tables e below (T6.setTop (mkF m 63 #[.val (.int i0), .val (.int i1), .val (.long j2), .second, .val (.int i4), .val (.int i5), .val (.ref o6), .val .null, .val (.ref o8), .val (.ref b5), .unset, .unset, .unset, .unset, .unset] [(.long j2), (.ref o8), (.int i0)])) _
  refine XS.aconstNull X6.here hx rfl (hb hby at_63) ?_
  show Steps p.tables e below (T6.setTop (mkF m 64 #[.val (.int i0), .val (.int i1), .val (.long j2), .second, .val (.int i4), .val (.int i5), .val (.ref o6), .val .null, .val (.ref o8), .val (.ref b5), .unset, .unset, .unset, .unset, .unset] [.null, (.long j2), (.ref o8), (.int i0)])) _
  refine st7 _ ?_
  show Steps p.tables e below (T7.setTop (mkF m 67 #[.val (.int i0), .val (.int i1), .val (.long j2), .second, .val (.int i4), .val (.int i5), .val (.ref o6), .val .null, .val (.ref o8), .val (.ref b5), .unset, .unset, .unset, .unset, .unset] [(.ref bq)])) _
  refine XS.astore X7.here hx rfl (hb hby at_67) rfl rfl (l' := #[.val (.int i0), .val (.int i1), .val (.long j2), .second, .val (.int i4), .val (.int i5), .val (.ref o6), .val .null, .val (.ref o8), .val (.ref b5), .val (.ref bq), .unset, .unset, .unset, .unset]) rfl ?_
  show Steps p.tables e below (T7.setTop (mkF m 69 #[.val (.int i0), .val (.int i1), .val (.long j2), .second, .val (.int i4), .val (.int i5), .val (.ref o6), .val .null, .val (.ref o8), .val (.ref b5), .val (.ref bq), .unset, .unset, .unset, .unset] [])) _
  refine st8 _ ?_
  show Steps p.tables e below (T8.setTop (mkF m 72 #[.val (.int i0), .val (.int i1), .val (.long j2), .second, .val (.int i4), .val (.int i5), .val (.ref o6), .val .null, .val (.ref o8), .val (.ref b5), .val (.ref bq), .unset, .unset, .unset, .unset] [(.ref b8)])) _
  refine XS.dup X8.here hx rfl (hb hby at_72) rfl rfl ?_
  show Steps p.tables e below (T8.setTop (mkF m 73 #[.val (.int i0), .val (.int i1), .val (.long j2), .second, .val (.int i4), .val (.int i5), .val (.ref o6), .val .null, .val (.ref o8), .val (.ref b5), .val (.ref bq), .unset, .unset, .unset, .unset] [(.ref b8), (.ref b8)])) _
  refine XS.iloadN X8.here hx rfl (hb hby at_73) rfl ?_
  show Steps p.tables e below (T8.setTop (mkF m 74 #[.val (.int i0), .val (.int i1), .val (.long j2), .second, .val (.int i4), .val (.int i5), .val (.ref o6), .val .null, .val (.ref o8), .val (.ref b5), .val (.ref bq), .unset, .unset, .unset, .unset] [(.int i0), (.ref b8), (.ref b8)])) _
  refine XS.aload X8.here hx rfl (hb hby at_74) rfl rfl ?_
  show Steps p.tables e below (T8.setTop (mkF m 76 #[.val (.int i0), .val (.int i1), .val (.long j2), .second, .val (.int i4), .val (.int i5), .val (.ref o6), .val .null, .val (.ref o8), .val (.ref b5), .val (.ref bq), .unset, .unset, .unset, .unset] [(.ref o6), (.int i0), (.ref b8), (.ref b8)])) _
  refine XS.aload X8.here hx rfl (hb hby at_76) rfl rfl ?_
  show Steps p.tables e below (T8.setTop (mkF m 78 #[.val (.int i0), .val (.int i1), .val (.long j2), .second, .val (.int i4), .val (.int i5), .val (.ref o6), .val .null, .val (.ref o8), .val (.ref b5), .val (.ref bq), .unset, .unset, .unset, .unset] [.null, (.ref o6), (.int i0), (.ref b8), (.ref b8)])) _
  refine XS.aload X8.here hx rfl (hb hby at_78) rfl rfl ?_
  show Steps p.tables e below (T8.setTop (mkF m 80 #[.val (.int i0), .val (.int i1), .val (.long j2), .second, .val (.int i4), .val (.int i5), .val (.ref o6), .val .null, .val (.ref o8), .val (.ref b5), .val (.ref bq), .unset, .unset, .unset, .unset] [(.ref o8), .null, (.ref o6), (.int i0), (.ref b8), (.ref b8)])) _
  refine st9 _ ?_
  show Steps p.tables e below (T9.setTop (mkF m 83 #[.val (.int i0), .val (.int i1), .val (.long j2), .second, .val (.int i4), .val (.int i5), .val (.ref o6), .val .null, .val (.ref o8), .val (.ref b5), .val (.ref bq), .unset, .unset, .unset, .unset] [(.ref b9), (.ref o8), .null, (.ref o6), (.int i0), (.ref b8), (.ref b8)])) _
  refine XS.dup X9.here hx rfl (hb hby at_83) rfl rfl ?_
  show Steps p.tables e below (T9.setTop (mkF m 84 #[.val (.int i0), .val (.int i1), .val (.long j2), .second, .val (.int i4), .val (.int i5), .val (.ref o6), .val .null, .val (.ref o8), .val (.ref b5), .val (.ref bq), .unset, .unset, .unset, .unset] [(.ref b9), (.ref b9), (.ref o8), .null, (.ref o6), (.int i0), (.ref b8), (.ref b8)])) _
  refine XS.lloadN X9.here hx rfl (hb hby at_84) rfl ?_
  show Steps p.tables e below (T9.setTop (mkF m 85 #[.val (.int i0), .val (.int i1), .val (.long j2), .second, .val (.int i4), .val (.int i5), .val (.ref o6), .val .null, .val (.ref o8), .val (.ref b5), .val (.ref bq), .unset, .unset, .unset, .unset] [(.long j2), (.ref b9), (.ref b9), (.ref o8), .null, (.ref o6), (.int i0), (.ref b8), (.ref b8)])) _
  refine XS.aconstNull X9.here hx rfl (hb hby at_85) ?_
  show Steps p.tables e below (T9.setTop (mkF m 86 #[.val (.int i0), .val (.int i1), .val (.long j2), .second, .val (.int i4), .val (.int i5), .val (.ref o6), .val .null, .val (.ref o8), .val (.ref b5), .val (.ref bq), .unset, .unset, .unset, .unset] [.null, (.long j2), (.ref b9), (.ref b9), (.ref o8), .null, (.ref o6), (.int i0), (.ref b8), (.ref b8)])) _
  refine st10.trans ?_
  show Steps p.tables e below (T10.setTop (mkF m 89 #[.val (.int i0), .val (.int i1), .val (.long j2), .second, .val (.int i4), .val (.int i5), .val (.ref o6), .val .null, .val (.ref o8), .val (.ref b5), .val (.ref bq), .unset, .unset, .unset, .unset] [(.ref b9), (.ref o8), .null, (.ref o6), (.int i0), (.ref b8), (.ref b8)])) _
  refine st11.trans ?_
  show Steps p.tables e below (T11.setTop (mkF m 92 #[.val (.int i0), .val (.int i1), .val (.long j2), .second, .val (.int i4), .val (.int i5), .val (.ref o6), .val .null, .val (.ref o8), .val (.ref b5), .val (.ref bq), .unset, .unset, .unset, .unset] [(.ref b8)])) _
  refine XS.astore X11.here hx rfl (hb hby at_92) rfl rfl (l' := #[.val (.int i0), .val (.int i1), .val (.long j2), .second, .val (.int i4), .val (.int i5), .val (.ref o6), .val .null, .val (.ref o8), .val (.ref b5), .val (.ref bq), .val (.ref b8), .unset, .unset, .unset]) rfl ?_
  show Steps p.tables e below (T11.setTop (mkF m 94 #[.val (.int i0), .val (.int i1), .val (.long j2), .second, .val (.int i4), .val (.int i5), .val (.ref o6), .val .null, .val (.ref o8), .val (.ref b5), .val (.ref bq), .val (.ref b8), .unset, .unset, .unset] [])) _
  refine XS.aload X11.here hx rfl (hb hby at_94) rfl rfl ?_
  show Steps p.tables e below (T11.setTop (mkF m 96 #[.val (.int i0), .val (.int i1), .val (.long j2), .second, .val (.int i4), .val (.int i5), .val (.ref o6), .val .null, .val (.ref o8), .val (.ref b5), .val (.ref bq), .val (.ref b8), .unset, .unset, .unset] [(.ref b5)])) _
  refine st12.trans ?_
  show Steps p.tables e below (T12.setTop (mkF m 99 #[.val (.int i0), .val (.int i1), .val (.long j2), .second, .val (.int i4), .val (.int i5), .val (.ref o6), .val .null, .val (.ref o8), .val (.ref b5), .val (.ref bq), .val (.ref b8), .unset, .unset, .unset] [(.long (i5.toInt64))])) _
  refine XS.iload X12.here hx rfl (hb hby at_99) rfl ?_
  show Steps p.tables e below (T12.setTop (mkF m 101 #[.val (.int i0), .val (.int i1), .val (.long j2), .second, .val (.int i4), .val (.int i5), .val (.ref o6), .val .null, .val (.ref o8), .val (.ref b5), .val (.ref bq), .val (.ref b8), .unset, .unset, .unset] [(.int i5), (.long (i5.toInt64))])) _
  refine XS.i2l X12.here hx rfl (hb hby at_101) rfl ?_
  show Steps p.tables e below (T12.setTop (mkF m 102 #[.val (.int i0), .val (.int i1), .val (.long j2), .second, .val (.int i4), .val (.int i5), .val (.ref o6), .val .null, .val (.ref o8), .val (.ref b5), .val (.ref bq), .val (.ref b8), .unset, .unset, .unset] [(.long (i5.toInt64)), (.long (i5.toInt64))])) _
  refine XS.lcmp X12.here hx rfl (hb hby at_102) rfl ?_
  show Steps p.tables e below (T12.setTop (mkF m 103 #[.val (.int i0), .val (.int i1), .val (.long j2), .second, .val (.int i4), .val (.int i5), .val (.ref o6), .val .null, .val (.ref o8), .val (.ref b5), .val (.ref bq), .val (.ref b8), .unset, .unset, .unset] [(.int (lcmpW (i5.toInt64) (i5.toInt64)))])) _
  refine XS.ifNo X12.here hx rfl (hb hby at_103) rfl ((if0 _ _).trans (teq ((lw_eq _ _).mpr rfl : (lcmpW (i5.toInt64) (i5.toInt64)) = (0 : Int32))).2) ?_
  show Steps p.tables e below (T12.setTop (mkF m 106 #[.val (.int i0), .val (.int i1), .val (.long j2), .second, .val (.int i4), .val (.int i5), .val (.ref o6), .val .null, .val (.ref o8), .val (.ref b5), .val (.ref bq), .val (.ref b8), .unset, .unset, .unset] [])) _
  refine XS.iconst X12.here hx rfl (hb hby at_106) ?_
  show Steps p.tables e below (T12.setTop (mkF m 107 #[.val (.int i0), .val (.int i1), .val (.long j2), .second, .val (.int i4), .val (.int i5), .val (.ref o6), .val .null, .val (.ref o8), .val (.ref b5), .val (.ref bq), .val (.ref b8), .unset, .unset, .unset] [(.int (1 : Int32))])) _
  refine XS.goto X12.here hx rfl (pc0 := 107) (pc' := 111) rfl (hb hby at_107) (by decide) (by decide) ?_
  show Steps p.tables e below (T12.setTop (mkF m 111 #[.val (.int i0), .val (.int i1), .val (.long j2), .second, .val (.int i4), .val (.int i5), .val (.ref o6), .val .null, .val (.ref o8), .val (.ref b5), .val (.ref bq), .val (.ref b8), .unset, .unset, .unset] [(.int (1 : Int32))])) _
  refine XS.istore X12.here hx rfl (hb hby at_111) rfl (l' := #[.val (.int i0), .val (.int i1), .val (.long j2), .second, .val (.int i4), .val (.int i5), .val (.ref o6), .val .null, .val (.ref o8), .val (.ref b5), .val (.ref bq), .val (.ref b8), .val (.int (1 : Int32)), .unset, .unset]) rfl ?_
  show Steps p.tables e below (T12.setTop (mkF m 113 #[.val (.int i0), .val (.int i1), .val (.long j2), .second, .val (.int i4), .val (.int i5), .val (.ref o6), .val .null, .val (.ref o8), .val (.ref b5), .val (.ref bq), .val (.ref b8), .val (.int (1 : Int32)), .unset, .unset] [])) _
  refine XS.aload X12.here hx rfl (hb hby at_113) rfl rfl ?_
  show Steps p.tables e below (T12.setTop (mkF m 115 #[.val (.int i0), .val (.int i1), .val (.long j2), .second, .val (.int i4), .val (.int i5), .val (.ref o6), .val .null, .val (.ref o8), .val (.ref b5), .val (.ref bq), .val (.ref b8), .val (.int (1 : Int32)), .unset, .unset] [(.ref bq)])) _
  refine st13.trans ?_
  show Steps p.tables e below (T13.setTop (mkF m 118 #[.val (.int i0), .val (.int i1), .val (.long j2), .second, .val (.int i4), .val (.int i5), .val (.ref o6), .val .null, .val (.ref o8), .val (.ref b5), .val (.ref bq), .val (.ref b8), .val (.int (1 : Int32)), .unset, .unset] [(.long j2)])) _
  refine XS.lloadN X13.here hx rfl (hb hby at_118) rfl ?_
  show Steps p.tables e below (T13.setTop (mkF m 119 #[.val (.int i0), .val (.int i1), .val (.long j2), .second, .val (.int i4), .val (.int i5), .val (.ref o6), .val .null, .val (.ref o8), .val (.ref b5), .val (.ref bq), .val (.ref b8), .val (.int (1 : Int32)), .unset, .unset] [(.long j2), (.long j2)])) _
  refine XS.lcmp X13.here hx rfl (hb hby at_119) rfl ?_
  show Steps p.tables e below (T13.setTop (mkF m 120 #[.val (.int i0), .val (.int i1), .val (.long j2), .second, .val (.int i4), .val (.int i5), .val (.ref o6), .val .null, .val (.ref o8), .val (.ref b5), .val (.ref bq), .val (.ref b8), .val (.int (1 : Int32)), .unset, .unset] [(.int (lcmpW j2 j2))])) _
  refine XS.ifNo X13.here hx rfl (hb hby at_120) rfl ((if0 _ _).trans (teq ((lw_eq _ _).mpr rfl : (lcmpW j2 j2) = (0 : Int32))).2) ?_
  show Steps p.tables e below (T13.setTop (mkF m 123 #[.val (.int i0), .val (.int i1), .val (.long j2), .second, .val (.int i4), .val (.int i5), .val (.ref o6), .val .null, .val (.ref o8), .val (.ref b5), .val (.ref bq), .val (.ref b8), .val (.int (1 : Int32)), .unset, .unset] [])) _
  refine XS.iconst X13.here hx rfl (hb hby at_123) ?_
  show Steps p.tables e below (T13.setTop (mkF m 124 #[.val (.int i0), .val (.int i1), .val (.long j2), .second, .val (.int i4), .val (.int i5), .val (.ref o6), .val .null, .val (.ref o8), .val (.ref b5), .val (.ref bq), .val (.ref b8), .val (.int (1 : Int32)), .unset, .unset] [(.int (1 : Int32))])) _
  refine XS.goto X13.here hx rfl (pc0 := 124) (pc' := 128) rfl (hb hby at_124) (by decide) (by decide) ?_
  show Steps p.tables e below (T13.setTop (mkF m 128 #[.val (.int i0), .val (.int i1), .val (.long j2), .second, .val (.int i4), .val (.int i5), .val (.ref o6), .val .null, .val (.ref o8), .val (.ref b5), .val (.ref bq), .val (.ref b8), .val (.int (1 : Int32)), .unset, .unset] [(.int (1 : Int32))])) _
  refine XS.istore X13.here hx rfl (hb hby at_128) rfl (l' := #[.val (.int i0), .val (.int i1), .val (.long j2), .second, .val (.int i4), .val (.int i5), .val (.ref o6), .val .null, .val (.ref o8), .val (.ref b5), .val (.ref bq), .val (.ref b8), .val (.int (1 : Int32)), .val (.int (1 : Int32)), .unset]) rfl ?_
  show Steps p.tables e below (T13.setTop (mkF m 130 #[.val (.int i0), .val (.int i1), .val (.long j2), .second, .val (.int i4), .val (.int i5), .val (.ref o6), .val .null, .val (.ref o8), .val (.ref b5), .val (.ref bq), .val (.ref b8), .val (.int (1 : Int32)), .val (.int (1 : Int32)), .unset] [])) _
  refine XS.aload X13.here hx rfl (hb hby at_130) rfl rfl ?_
  show Steps p.tables e below (T13.setTop (mkF m 132 #[.val (.int i0), .val (.int i1), .val (.long j2), .second, .val (.int i4), .val (.int i5), .val (.ref o6), .val .null, .val (.ref o8), .val (.ref b5), .val (.ref bq), .val (.ref b8), .val (.int (1 : Int32)), .val (.int (1 : Int32)), .unset] [(.ref b8)])) _
  refine st14.trans ?_
  show Steps p.tables e below (T14.setTop (mkF m 135 #[.val (.int i0), .val (.int i1), .val (.long j2), .second, .val (.int i4), .val (.int i5), .val (.ref o6), .val .null, .val (.ref o8), .val (.ref b5), .val (.ref bq), .val (.ref b8), .val (.int (1 : Int32)), .val (.int (1 : Int32)), .unset] [(.long j2)])) _
  refine XS.lloadN X14.here hx rfl (hb hby at_135) rfl ?_
  show Steps p.tables e below (T14.setTop (mkF m 136 #[.val (.int i0), .val (.int i1), .val (.long j2), .second, .val (.int i4), .val (.int i5), .val (.ref o6), .val .null, .val (.ref o8), .val (.ref b5), .val (.ref bq), .val (.ref b8), .val (.int (1 : Int32)), .val (.int (1 : Int32)), .unset] [(.long j2), (.long j2)])) _
  refine XS.lcmp X14.here hx rfl (hb hby at_136) rfl ?_
  show Steps p.tables e below (T14.setTop (mkF m 137 #[.val (.int i0), .val (.int i1), .val (.long j2), .second, .val (.int i4), .val (.int i5), .val (.ref o6), .val .null, .val (.ref o8), .val (.ref b5), .val (.ref bq), .val (.ref b8), .val (.int (1 : Int32)), .val (.int (1 : Int32)), .unset] [(.int (lcmpW j2 j2))])) _
  refine XS.ifNo X14.here hx rfl (hb hby at_137) rfl ((if0 _ _).trans (teq ((lw_eq _ _).mpr rfl : (lcmpW j2 j2) = (0 : Int32))).2) ?_
  show Steps p.tables e below (T14.setTop (mkF m 140 #[.val (.int i0), .val (.int i1), .val (.long j2), .second, .val (.int i4), .val (.int i5), .val (.ref o6), .val .null, .val (.ref o8), .val (.ref b5), .val (.ref bq), .val (.ref b8), .val (.int (1 : Int32)), .val (.int (1 : Int32)), .unset] [])) _
  refine XS.iconst X14.here hx rfl (hb hby at_140) ?_
  show Steps p.tables e below (T14.setTop (mkF m 141 #[.val (.int i0), .val (.int i1), .val (.long j2), .second, .val (.int i4), .val (.int i5), .val (.ref o6), .val .null, .val (.ref o8), .val (.ref b5), .val (.ref bq), .val (.ref b8), .val (.int (1 : Int32)), .val (.int (1 : Int32)), .unset] [(.int (1 : Int32))])) _
  refine XS.goto X14.here hx rfl (pc0 := 141) (pc' := 145) rfl (hb hby at_141) (by decide) (by decide) ?_
  show Steps p.tables e below (T14.setTop (mkF m 145 #[.val (.int i0), .val (.int i1), .val (.long j2), .second, .val (.int i4), .val (.int i5), .val (.ref o6), .val .null, .val (.ref o8), .val (.ref b5), .val (.ref bq), .val (.ref b8), .val (.int (1 : Int32)), .val (.int (1 : Int32)), .unset] [(.int (1 : Int32))])) _
  refine XS.istore X14.here hx rfl (hb hby at_145) rfl (l' := #[.val (.int i0), .val (.int i1), .val (.long j2), .second, .val (.int i4), .val (.int i5), .val (.ref o6), .val .null, .val (.ref o8), .val (.ref b5), .val (.ref bq), .val (.ref b8), .val (.int (1 : Int32)), .val (.int (1 : Int32)), .val (.int (1 : Int32))]) rfl ?_
  show Steps p.tables e below (T14.setTop (mkF m 147 #[.val (.int i0), .val (.int i1), .val (.long j2), .second, .val (.int i4), .val (.int i5), .val (.ref o6), .val .null, .val (.ref o8), .val (.ref b5), .val (.ref bq), .val (.ref b8), .val (.int (1 : Int32)), .val (.int (1 : Int32)), .val (.int (1 : Int32))] [])) _
  refine XS.iload X14.here hx rfl (hb hby at_147) rfl ?_
  show Steps p.tables e below (T14.setTop (mkF m 149 #[.val (.int i0), .val (.int i1), .val (.long j2), .second, .val (.int i4), .val (.int i5), .val (.ref o6), .val .null, .val (.ref o8), .val (.ref b5), .val (.ref bq), .val (.ref b8), .val (.int (1 : Int32)), .val (.int (1 : Int32)), .val (.int (1 : Int32))] [(.int (1 : Int32))])) _
  refine XS.ifNo X14.here hx rfl (hb hby at_149) rfl ((if0 _ _).trans (feq hc149).1) ?_
  show Steps p.tables e below (T14.setTop (mkF m 152 #[.val (.int i0), .val (.int i1), .val (.long j2), .second, .val (.int i4), .val (.int i5), .val (.ref o6), .val .null, .val (.ref o8), .val (.ref b5), .val (.ref bq), .val (.ref b8), .val (.int (1 : Int32)), .val (.int (1 : Int32)), .val (.int (1 : Int32))] [])) _
  refine XS.iload X14.here hx rfl (hb hby at_152) rfl ?_
  show Steps p.tables e below (T14.setTop (mkF m 154 #[.val (.int i0), .val (.int i1), .val (.long j2), .second, .val (.int i4), .val (.int i5), .val (.ref o6), .val .null, .val (.ref o8), .val (.ref b5), .val (.ref bq), .val (.ref b8), .val (.int (1 : Int32)), .val (.int (1 : Int32)), .val (.int (1 : Int32))] [(.int (1 : Int32))])) _
  refine XS.ifNo X14.here hx rfl (hb hby at_154) rfl ((if0 _ _).trans (feq hc154).1) ?_
  show Steps p.tables e below (T14.setTop (mkF m 157 #[.val (.int i0), .val (.int i1), .val (.long j2), .second, .val (.int i4), .val (.int i5), .val (.ref o6), .val .null, .val (.ref o8), .val (.ref b5), .val (.ref bq), .val (.ref b8), .val (.int (1 : Int32)), .val (.int (1 : Int32)), .val (.int (1 : Int32))] [])) _
  refine XS.iload X14.here hx rfl (hb hby at_157) rfl ?_
  show Steps p.tables e below (T14.setTop (mkF m 159 #[.val (.int i0), .val (.int i1), .val (.long j2), .second, .val (.int i4), .val (.int i5), .val (.ref o6), .val .null, .val (.ref o8), .val (.ref b5), .val (.ref bq), .val (.ref b8), .val (.int (1 : Int32)), .val (.int (1 : Int32)), .val (.int (1 : Int32))] [(.int (1 : Int32))])) _
  refine XS.ifNo X14.here hx rfl (hb hby at_159) rfl ((if0 _ _).trans (feq hc159).1) ?_
  show Steps p.tables e below (T14.setTop (mkF m 162 #[.val (.int i0), .val (.int i1), .val (.long j2), .second, .val (.int i4), .val (.int i5), .val (.ref o6), .val .null, .val (.ref o8), .val (.ref b5), .val (.ref bq), .val (.ref b8), .val (.int (1 : Int32)), .val (.int (1 : Int32)), .val (.int (1 : Int32))] [])) _
  refine XS.iconst X14.here hx rfl (hb hby at_162) ?_
  show Steps p.tables e below (T14.setTop (mkF m 163 #[.val (.int i0), .val (.int i1), .val (.long j2), .second, .val (.int i4), .val (.int i5), .val (.ref o6), .val .null, .val (.ref o8), .val (.ref b5), .val (.ref bq), .val (.ref b8), .val (.int (1 : Int32)), .val (.int (1 : Int32)), .val (.int (1 : Int32))] [(.int (1 : Int32))])) _
  refine XS.goto X14.here hx rfl (pc0 := 163) (pc' := 167) rfl (hb hby at_163) (by decide) (by decide) ?_
  exact kt
theorem own_low (p : Int32) : ¬ (p &&& (15 : Int32)) < (0 : Int32) ∧ (p &&& (15 : Int32)).toNatClampNeg ≤ 15 := by
  have hm : (p &&& (15 : Int32)).toInt = p.toInt % 16 := c_mask p 15 4 (by decide) (by decide)
  have k0 : (0 : Int32).toInt = 0 := by decide
  rw [Int32.lt_iff_toInt_lt, Int32.toNatClampNeg]
  omega
set_option maxRecDepth 65536 in
set_option maxHeartbeats 40000000 in
theorem sgA_t {p : Program} {l : Launch} {e : Env} {s : State} {m : MethodId} {args : Array Value} {below : List Frame} {meth : Method} {c : Code} {T0 : State} {locs : List Loc} {Z : State} {a0 : Array Value} {h0 : Heap} {n0 : Nat} (i0 : Int32) (i1 : Int32) (j2 : Int64) (i4 : Int32)
    (X0 : Stand p l e room_1 s m args below meth c T0 locs 0 0) (hx : p.tables.exec = Jvm.exec) (hZ : Z.Warmed39 s.vm) (hw : ∀ d ∈ tables_1, d.before a0 Z = true) (hby : c.code = code) (hml : c.maxLocals = 15) (hown : s.vm.findClass "com/example/cell5/cell5/http/ReplyLengthPinLaw" = some m.cls) (e0 : T0.heap = h0) (Z0 : n0 ≤ h0.size) (N0 : Fr n0 locs) (hc16 : (i4 &&& (1 : Int32)) = (0 : Int32)) :
    ∃ (T' : State) (h' : Heap) (b5 : Addr) (k7 : ClassId), Stand p l e room_1 s m args below meth c T' locs 1 15 ∧ T'.heap = h' ∧ Keep h0 h' [] ∧ Arv Z h' b5 k7 .byte (i1 &&& (15 : Int32)) [] (.int (0 : Int32)) ∧
      ∀ target, Steps p.tables e below (T'.setTop (mkF m 23 #[.val (.int i0), .val (.int i1), .val (.long j2), .second, .val (.int i4), .val (.int (i1 &&& (15 : Int32))), .val (.ref b5), .unset, .unset, .unset, .unset, .unset, .unset, .unset, .unset] [])) target → Steps p.tables e below (T0.setTop (mkF m 0 #[.val (.int i0), .val (.int i1), .val (.long j2), .second, .val (.int i4), .unset, .unset, .unset, .unset, .unset, .unset, .unset, .unset, .unset, .unset] [])) target := by
  obtain ⟨T5, h5, k5, X5, e5, E5, A5, st5⟩ := newP X0 hx hZ (hw _ (List.mem_of_getElem? (i := 0) rfl)) e0 (g := (mkF m 8 #[.val (.int i0), .val (.int i1), .val (.long j2), .second, .val (.int i4), .val (.int (i1 &&& (15 : Int32))), .unset, .unset, .unset, .unset, .unset, .unset, .unset, .unset, .unset] [(.int (i1 &&& (15 : Int32)))])) rfl (hb hby at_8) rfl (own_low i1).1 (cap := 15) (own_low i1).2 (by decide) (by decide) (by decide)
  obtain ⟨b5, g5⟩ : ∃ z, z = h0.size := ⟨_, rfl⟩
  rw [← g5] at A5 st5
  have V_b5 := Arv.new A5 (own_low i1).1
  have g_b5 : n0 ≤ b5 := Nat.le_trans Z0 (Nat.le_of_eq g5.symm)
  have sz_b5 : h0.size ≤ b5 := (Nat.le_trans (Keep.refl h0 []).1 (Nat.le_of_eq g5.symm))
  have K5 : Keep h0 h5 [] := (Keep.refl h0 []).ext E5
  refine ⟨T5, _, b5, k5, X5, e5, K5, V_b5, fun target kt => ?_⟩
  show Steps p.tables e below (T0.setTop (mkF m 0 #[.val (.int i0), .val (.int i1), .val (.long j2), .second, .val (.int i4), .unset, .unset, .unset, .unset, .unset, .unset, .unset, .unset, .unset, .unset] [])) _
  refine XS.iloadN X0.here hx rfl (hb hby at_0) rfl ?_
  show Steps p.tables e below (T0.setTop (mkF m 1 #[.val (.int i0), .val (.int i1), .val (.long j2), .second, .val (.int i4), .unset, .unset, .unset, .unset, .unset, .unset, .unset, .unset, .unset, .unset] [(.int i1)])) _
  refine XS.bipush X0.here hx rfl (hb hby at_1) ?_
  show Steps p.tables e below (T0.setTop (mkF m 3 #[.val (.int i0), .val (.int i1), .val (.long j2), .second, .val (.int i4), .unset, .unset, .unset, .unset, .unset, .unset, .unset, .unset, .unset, .unset] [(.int (15 : Int32)), (.int i1)])) _
  refine XS.iand X0.here hx rfl (hb hby at_3) rfl ?_
  show Steps p.tables e below (T0.setTop (mkF m 4 #[.val (.int i0), .val (.int i1), .val (.long j2), .second, .val (.int i4), .unset, .unset, .unset, .unset, .unset, .unset, .unset, .unset, .unset, .unset] [(.int (i1 &&& (15 : Int32)))])) _
  refine XS.istore X0.here hx rfl (hb hby at_4) rfl (l' := #[.val (.int i0), .val (.int i1), .val (.long j2), .second, .val (.int i4), .val (.int (i1 &&& (15 : Int32))), .unset, .unset, .unset, .unset, .unset, .unset, .unset, .unset, .unset]) rfl ?_
  show Steps p.tables e below (T0.setTop (mkF m 6 #[.val (.int i0), .val (.int i1), .val (.long j2), .second, .val (.int i4), .val (.int (i1 &&& (15 : Int32))), .unset, .unset, .unset, .unset, .unset, .unset, .unset, .unset, .unset] [])) _
  refine XS.iload X0.here hx rfl (hb hby at_6) rfl ?_
  show Steps p.tables e below (T0.setTop (mkF m 8 #[.val (.int i0), .val (.int i1), .val (.long j2), .second, .val (.int i4), .val (.int (i1 &&& (15 : Int32))), .unset, .unset, .unset, .unset, .unset, .unset, .unset, .unset, .unset] [(.int (i1 &&& (15 : Int32)))])) _
  refine st5 _ ?_
  show Steps p.tables e below (T5.setTop (mkF m 10 #[.val (.int i0), .val (.int i1), .val (.long j2), .second, .val (.int i4), .val (.int (i1 &&& (15 : Int32))), .unset, .unset, .unset, .unset, .unset, .unset, .unset, .unset, .unset] [(.ref b5)])) _
  refine XS.astore X5.here hx rfl (hb hby at_10) rfl rfl (l' := #[.val (.int i0), .val (.int i1), .val (.long j2), .second, .val (.int i4), .val (.int (i1 &&& (15 : Int32))), .val (.ref b5), .unset, .unset, .unset, .unset, .unset, .unset, .unset, .unset]) rfl ?_
  show Steps p.tables e below (T5.setTop (mkF m 12 #[.val (.int i0), .val (.int i1), .val (.long j2), .second, .val (.int i4), .val (.int (i1 &&& (15 : Int32))), .val (.ref b5), .unset, .unset, .unset, .unset, .unset, .unset, .unset, .unset] [])) _
  refine XS.iload X5.here hx rfl (hb hby at_12) rfl ?_
  show Steps p.tables e below (T5.setTop (mkF m 14 #[.val (.int i0), .val (.int i1), .val (.long j2), .second, .val (.int i4), .val (.int (i1 &&& (15 : Int32))), .val (.ref b5), .unset, .unset, .unset, .unset, .unset, .unset, .unset, .unset] [(.int i4)])) _
  refine XS.iconst X5.here hx rfl (hb hby at_14) ?_
  show Steps p.tables e below (T5.setTop (mkF m 15 #[.val (.int i0), .val (.int i1), .val (.long j2), .second, .val (.int i4), .val (.int (i1 &&& (15 : Int32))), .val (.ref b5), .unset, .unset, .unset, .unset, .unset, .unset, .unset, .unset] [(.int (1 : Int32)), (.int i4)])) _
  refine XS.iand X5.here hx rfl (hb hby at_15) rfl ?_
  show Steps p.tables e below (T5.setTop (mkF m 16 #[.val (.int i0), .val (.int i1), .val (.long j2), .second, .val (.int i4), .val (.int (i1 &&& (15 : Int32))), .val (.ref b5), .unset, .unset, .unset, .unset, .unset, .unset, .unset, .unset] [(.int (i4 &&& (1 : Int32)))])) _
  refine XS.ifYes X5.here hx rfl (pc0 := 16) (pc' := 23) rfl (hb hby at_16) rfl ((if0 _ _).trans (teq hc16).1) (by decide) (by decide) ?_
  exact kt
set_option maxRecDepth 65536 in
set_option maxHeartbeats 40000000 in
theorem sgA_f {p : Program} {l : Launch} {e : Env} {s : State} {m : MethodId} {args : Array Value} {below : List Frame} {meth : Method} {c : Code} {T0 : State} {locs : List Loc} {Z : State} {a0 : Array Value} {h0 : Heap} {n0 : Nat} (i0 : Int32) (i1 : Int32) (j2 : Int64) (i4 : Int32)
    (X0 : Stand p l e room_1 s m args below meth c T0 locs 0 0) (hx : p.tables.exec = Jvm.exec) (hZ : Z.Warmed39 s.vm) (hw : ∀ d ∈ tables_1, d.before a0 Z = true) (hby : c.code = code) (hml : c.maxLocals = 15) (hown : s.vm.findClass "com/example/cell5/cell5/http/ReplyLengthPinLaw" = some m.cls) (e0 : T0.heap = h0) (Z0 : n0 ≤ h0.size) (N0 : Fr n0 locs) (hc16 : ¬ ((i4 &&& (1 : Int32)) = (0 : Int32))) :
    ∃ (T' : State) (h' : Heap) (b5 : Addr) (k7 : ClassId), Stand p l e room_1 s m args below meth c T' locs 1 15 ∧ T'.heap = h' ∧ Keep h0 h' [] ∧ Arv Z h' b5 k7 .byte (i1 &&& (15 : Int32)) [] (.int (0 : Int32)) ∧
      ∀ target, Steps p.tables e below (T'.setTop (mkF m 27 #[.val (.int i0), .val (.int i1), .val (.long j2), .second, .val (.int i4), .val (.int (i1 &&& (15 : Int32))), .val (.ref b5), .val .null, .unset, .unset, .unset, .unset, .unset, .unset, .unset] [])) target → Steps p.tables e below (T0.setTop (mkF m 0 #[.val (.int i0), .val (.int i1), .val (.long j2), .second, .val (.int i4), .unset, .unset, .unset, .unset, .unset, .unset, .unset, .unset, .unset, .unset] [])) target := by
  obtain ⟨T5, h5, k5, X5, e5, E5, A5, st5⟩ := newP X0 hx hZ (hw _ (List.mem_of_getElem? (i := 0) rfl)) e0 (g := (mkF m 8 #[.val (.int i0), .val (.int i1), .val (.long j2), .second, .val (.int i4), .val (.int (i1 &&& (15 : Int32))), .unset, .unset, .unset, .unset, .unset, .unset, .unset, .unset, .unset] [(.int (i1 &&& (15 : Int32)))])) rfl (hb hby at_8) rfl (own_low i1).1 (cap := 15) (own_low i1).2 (by decide) (by decide) (by decide)
  obtain ⟨b5, g5⟩ : ∃ z, z = h0.size := ⟨_, rfl⟩
  rw [← g5] at A5 st5
  have V_b5 := Arv.new A5 (own_low i1).1
  have g_b5 : n0 ≤ b5 := Nat.le_trans Z0 (Nat.le_of_eq g5.symm)
  have sz_b5 : h0.size ≤ b5 := (Nat.le_trans (Keep.refl h0 []).1 (Nat.le_of_eq g5.symm))
  have K5 : Keep h0 h5 [] := (Keep.refl h0 []).ext E5
  refine ⟨T5, _, b5, k5, X5, e5, K5, V_b5, fun target kt => ?_⟩
  show Steps p.tables e below (T0.setTop (mkF m 0 #[.val (.int i0), .val (.int i1), .val (.long j2), .second, .val (.int i4), .unset, .unset, .unset, .unset, .unset, .unset, .unset, .unset, .unset, .unset] [])) _
  refine XS.iloadN X0.here hx rfl (hb hby at_0) rfl ?_
  show Steps p.tables e below (T0.setTop (mkF m 1 #[.val (.int i0), .val (.int i1), .val (.long j2), .second, .val (.int i4), .unset, .unset, .unset, .unset, .unset, .unset, .unset, .unset, .unset, .unset] [(.int i1)])) _
  refine XS.bipush X0.here hx rfl (hb hby at_1) ?_
  show Steps p.tables e below (T0.setTop (mkF m 3 #[.val (.int i0), .val (.int i1), .val (.long j2), .second, .val (.int i4), .unset, .unset, .unset, .unset, .unset, .unset, .unset, .unset, .unset, .unset] [(.int (15 : Int32)), (.int i1)])) _
  refine XS.iand X0.here hx rfl (hb hby at_3) rfl ?_
  show Steps p.tables e below (T0.setTop (mkF m 4 #[.val (.int i0), .val (.int i1), .val (.long j2), .second, .val (.int i4), .unset, .unset, .unset, .unset, .unset, .unset, .unset, .unset, .unset, .unset] [(.int (i1 &&& (15 : Int32)))])) _
  refine XS.istore X0.here hx rfl (hb hby at_4) rfl (l' := #[.val (.int i0), .val (.int i1), .val (.long j2), .second, .val (.int i4), .val (.int (i1 &&& (15 : Int32))), .unset, .unset, .unset, .unset, .unset, .unset, .unset, .unset, .unset]) rfl ?_
  show Steps p.tables e below (T0.setTop (mkF m 6 #[.val (.int i0), .val (.int i1), .val (.long j2), .second, .val (.int i4), .val (.int (i1 &&& (15 : Int32))), .unset, .unset, .unset, .unset, .unset, .unset, .unset, .unset, .unset] [])) _
  refine XS.iload X0.here hx rfl (hb hby at_6) rfl ?_
  show Steps p.tables e below (T0.setTop (mkF m 8 #[.val (.int i0), .val (.int i1), .val (.long j2), .second, .val (.int i4), .val (.int (i1 &&& (15 : Int32))), .unset, .unset, .unset, .unset, .unset, .unset, .unset, .unset, .unset] [(.int (i1 &&& (15 : Int32)))])) _
  refine st5 _ ?_
  show Steps p.tables e below (T5.setTop (mkF m 10 #[.val (.int i0), .val (.int i1), .val (.long j2), .second, .val (.int i4), .val (.int (i1 &&& (15 : Int32))), .unset, .unset, .unset, .unset, .unset, .unset, .unset, .unset, .unset] [(.ref b5)])) _
  refine XS.astore X5.here hx rfl (hb hby at_10) rfl rfl (l' := #[.val (.int i0), .val (.int i1), .val (.long j2), .second, .val (.int i4), .val (.int (i1 &&& (15 : Int32))), .val (.ref b5), .unset, .unset, .unset, .unset, .unset, .unset, .unset, .unset]) rfl ?_
  show Steps p.tables e below (T5.setTop (mkF m 12 #[.val (.int i0), .val (.int i1), .val (.long j2), .second, .val (.int i4), .val (.int (i1 &&& (15 : Int32))), .val (.ref b5), .unset, .unset, .unset, .unset, .unset, .unset, .unset, .unset] [])) _
  refine XS.iload X5.here hx rfl (hb hby at_12) rfl ?_
  show Steps p.tables e below (T5.setTop (mkF m 14 #[.val (.int i0), .val (.int i1), .val (.long j2), .second, .val (.int i4), .val (.int (i1 &&& (15 : Int32))), .val (.ref b5), .unset, .unset, .unset, .unset, .unset, .unset, .unset, .unset] [(.int i4)])) _
  refine XS.iconst X5.here hx rfl (hb hby at_14) ?_
  show Steps p.tables e below (T5.setTop (mkF m 15 #[.val (.int i0), .val (.int i1), .val (.long j2), .second, .val (.int i4), .val (.int (i1 &&& (15 : Int32))), .val (.ref b5), .unset, .unset, .unset, .unset, .unset, .unset, .unset, .unset] [(.int (1 : Int32)), (.int i4)])) _
  refine XS.iand X5.here hx rfl (hb hby at_15) rfl ?_
  show Steps p.tables e below (T5.setTop (mkF m 16 #[.val (.int i0), .val (.int i1), .val (.long j2), .second, .val (.int i4), .val (.int (i1 &&& (15 : Int32))), .val (.ref b5), .unset, .unset, .unset, .unset, .unset, .unset, .unset, .unset] [(.int (i4 &&& (1 : Int32)))])) _
  refine XS.ifNo X5.here hx rfl (hb hby at_16) rfl ((if0 _ _).trans (feq hc16).1) ?_
  show Steps p.tables e below (T5.setTop (mkF m 19 #[.val (.int i0), .val (.int i1), .val (.long j2), .second, .val (.int i4), .val (.int (i1 &&& (15 : Int32))), .val (.ref b5), .unset, .unset, .unset, .unset, .unset, .unset, .unset, .unset] [])) _
  refine XS.aconstNull X5.here hx rfl (hb hby at_19) ?_
  show Steps p.tables e below (T5.setTop (mkF m 20 #[.val (.int i0), .val (.int i1), .val (.long j2), .second, .val (.int i4), .val (.int (i1 &&& (15 : Int32))), .val (.ref b5), .unset, .unset, .unset, .unset, .unset, .unset, .unset, .unset] [.null])) _
  refine XS.goto X5.here hx rfl (pc0 := 20) (pc' := 25) rfl (hb hby at_20) (by decide) (by decide) ?_
  show Steps p.tables e below (T5.setTop (mkF m 25 #[.val (.int i0), .val (.int i1), .val (.long j2), .second, .val (.int i4), .val (.int (i1 &&& (15 : Int32))), .val (.ref b5), .unset, .unset, .unset, .unset, .unset, .unset, .unset, .unset] [.null])) _
  refine XS.astore X5.here hx rfl (hb hby at_25) rfl rfl (l' := #[.val (.int i0), .val (.int i1), .val (.long j2), .second, .val (.int i4), .val (.int (i1 &&& (15 : Int32))), .val (.ref b5), .val .null, .unset, .unset, .unset, .unset, .unset, .unset, .unset]) rfl ?_
  exact kt
set_option maxRecDepth 65536 in
set_option maxHeartbeats 40000000 in
theorem sgB_fr {p : Program} {l : Launch} {e : Env} {s : State} {m : MethodId} {args : Array Value} {below : List Frame} {meth : Method} {c : Code} {T0 : State} {locs : List Loc} {Z : State} {a0 : Array Value} {h0 : Heap} {n0 : Nat} (i0 : Int32) (i1 : Int32) (j2 : Int64) (i4 : Int32) (i5 : Int32) (o6 : Addr) (o7 : Addr)
    (X0 : Stand p l e room_1 s m args below meth c T0 locs 3 100) (hx : p.tables.exec = Jvm.exec) (hZ : Z.Warmed39 s.vm) (hw : ∀ d ∈ tables_1, d.before a0 Z = true) (hby : c.code = code) (hml : c.maxLocals = 15) (hown : s.vm.findClass "com/example/cell5/cell5/http/ReplyLengthPinLaw" = some m.cls) (e0 : T0.heap = h0) (Z0 : n0 ≤ h0.size) (N0 : Fr n0 locs) (hc31 : ¬ ((i4 &&& (2 : Int32)) = (0 : Int32))) :
    ∃ (T' : State) (h' : Heap) (locs' : List Loc), Stand p l e room_1 s m args below meth c T' locs' 3 100 ∧ T'.heap = h' ∧ Fr n0 locs' ∧ Keep h0 h' [] ∧
      ∀ target, Steps p.tables e below (T'.setTop (mkF m 34 #[.val (.int i0), .val (.int i1), .val (.long j2), .second, .val (.int i4), .val (.int i5), .val (.ref o6), .val (.ref o7), .unset, .unset, .unset, .unset, .unset, .unset, .unset] [])) target → Steps p.tables e below (T0.setTop (mkF m 27 #[.val (.int i0), .val (.int i1), .val (.long j2), .second, .val (.int i4), .val (.int i5), .val (.ref o6), .val (.ref o7), .unset, .unset, .unset, .unset, .unset, .unset, .unset] [])) target := by

  refine ⟨T0, _, _, X0, e0, N0, (Keep.refl h0 []), fun target kt => ?_⟩
  show Steps p.tables e below (T0.setTop (mkF m 27 #[.val (.int i0), .val (.int i1), .val (.long j2), .second, .val (.int i4), .val (.int i5), .val (.ref o6), .val (.ref o7), .unset, .unset, .unset, .unset, .unset, .unset, .unset] [])) _
  refine XS.iload X0.here hx rfl (hb hby at_27) rfl ?_
  show Steps p.tables e below (T0.setTop (mkF m 29 #[.val (.int i0), .val (.int i1), .val (.long j2), .second, .val (.int i4), .val (.int i5), .val (.ref o6), .val (.ref o7), .unset, .unset, .unset, .unset, .unset, .unset, .unset] [(.int i4)])) _
  refine XS.iconst X0.here hx rfl (hb hby at_29) ?_
  show Steps p.tables e below (T0.setTop (mkF m 30 #[.val (.int i0), .val (.int i1), .val (.long j2), .second, .val (.int i4), .val (.int i5), .val (.ref o6), .val (.ref o7), .unset, .unset, .unset, .unset, .unset, .unset, .unset] [(.int (2 : Int32)), (.int i4)])) _
  refine XS.iand X0.here hx rfl (hb hby at_30) rfl ?_
  show Steps p.tables e below (T0.setTop (mkF m 31 #[.val (.int i0), .val (.int i1), .val (.long j2), .second, .val (.int i4), .val (.int i5), .val (.ref o6), .val (.ref o7), .unset, .unset, .unset, .unset, .unset, .unset, .unset] [(.int (i4 &&& (2 : Int32)))])) _
  refine XS.ifNo X0.here hx rfl (hb hby at_31) rfl ((if0 _ _).trans (feq hc31).1) ?_
  exact kt
set_option maxRecDepth 65536 in
set_option maxHeartbeats 40000000 in
theorem sgB_fn {p : Program} {l : Launch} {e : Env} {s : State} {m : MethodId} {args : Array Value} {below : List Frame} {meth : Method} {c : Code} {T0 : State} {locs : List Loc} {Z : State} {a0 : Array Value} {h0 : Heap} {n0 : Nat} (i0 : Int32) (i1 : Int32) (j2 : Int64) (i4 : Int32) (i5 : Int32) (o6 : Addr)
    (X0 : Stand p l e room_1 s m args below meth c T0 locs 3 100) (hx : p.tables.exec = Jvm.exec) (hZ : Z.Warmed39 s.vm) (hw : ∀ d ∈ tables_1, d.before a0 Z = true) (hby : c.code = code) (hml : c.maxLocals = 15) (hown : s.vm.findClass "com/example/cell5/cell5/http/ReplyLengthPinLaw" = some m.cls) (e0 : T0.heap = h0) (Z0 : n0 ≤ h0.size) (N0 : Fr n0 locs) (hc31 : ¬ ((i4 &&& (2 : Int32)) = (0 : Int32))) :
    ∃ (T' : State) (h' : Heap) (locs' : List Loc), Stand p l e room_1 s m args below meth c T' locs' 3 100 ∧ T'.heap = h' ∧ Fr n0 locs' ∧ Keep h0 h' [] ∧
      ∀ target, Steps p.tables e below (T'.setTop (mkF m 34 #[.val (.int i0), .val (.int i1), .val (.long j2), .second, .val (.int i4), .val (.int i5), .val (.ref o6), .val .null, .unset, .unset, .unset, .unset, .unset, .unset, .unset] [])) target → Steps p.tables e below (T0.setTop (mkF m 27 #[.val (.int i0), .val (.int i1), .val (.long j2), .second, .val (.int i4), .val (.int i5), .val (.ref o6), .val .null, .unset, .unset, .unset, .unset, .unset, .unset, .unset] [])) target := by

  refine ⟨T0, _, _, X0, e0, N0, (Keep.refl h0 []), fun target kt => ?_⟩
  show Steps p.tables e below (T0.setTop (mkF m 27 #[.val (.int i0), .val (.int i1), .val (.long j2), .second, .val (.int i4), .val (.int i5), .val (.ref o6), .val .null, .unset, .unset, .unset, .unset, .unset, .unset, .unset] [])) _
  refine XS.iload X0.here hx rfl (hb hby at_27) rfl ?_
  show Steps p.tables e below (T0.setTop (mkF m 29 #[.val (.int i0), .val (.int i1), .val (.long j2), .second, .val (.int i4), .val (.int i5), .val (.ref o6), .val .null, .unset, .unset, .unset, .unset, .unset, .unset, .unset] [(.int i4)])) _
  refine XS.iconst X0.here hx rfl (hb hby at_29) ?_
  show Steps p.tables e below (T0.setTop (mkF m 30 #[.val (.int i0), .val (.int i1), .val (.long j2), .second, .val (.int i4), .val (.int i5), .val (.ref o6), .val .null, .unset, .unset, .unset, .unset, .unset, .unset, .unset] [(.int (2 : Int32)), (.int i4)])) _
  refine XS.iand X0.here hx rfl (hb hby at_30) rfl ?_
  show Steps p.tables e below (T0.setTop (mkF m 31 #[.val (.int i0), .val (.int i1), .val (.long j2), .second, .val (.int i4), .val (.int i5), .val (.ref o6), .val .null, .unset, .unset, .unset, .unset, .unset, .unset, .unset] [(.int (i4 &&& (2 : Int32)))])) _
  refine XS.ifNo X0.here hx rfl (hb hby at_31) rfl ((if0 _ _).trans (feq hc31).1) ?_
  exact kt
set_option maxRecDepth 65536 in
set_option maxHeartbeats 40000000 in
theorem sgB_tr {p : Program} {l : Launch} {e : Env} {s : State} {m : MethodId} {args : Array Value} {below : List Frame} {meth : Method} {c : Code} {T0 : State} {locs : List Loc} {Z : State} {a0 : Array Value} {h0 : Heap} {n0 : Nat} (i0 : Int32) (i1 : Int32) (j2 : Int64) (i4 : Int32) (i5 : Int32) (o6 : Addr) (o7 : Addr)
    (X0 : Stand p l e room_1 s m args below meth c T0 locs 3 100) (hx : p.tables.exec = Jvm.exec) (hZ : Z.Warmed39 s.vm) (hw : ∀ d ∈ tables_1, d.before a0 Z = true) (hby : c.code = code) (hml : c.maxLocals = 15) (hown : s.vm.findClass "com/example/cell5/cell5/http/ReplyLengthPinLaw" = some m.cls) (e0 : T0.heap = h0) (Z0 : n0 ≤ h0.size) (N0 : Fr n0 locs) (hc31 : (i4 &&& (2 : Int32)) = (0 : Int32)) :
    ∃ (T' : State) (h' : Heap) (locs' : List Loc), Stand p l e room_1 s m args below meth c T' locs' 3 100 ∧ T'.heap = h' ∧ Fr n0 locs' ∧ Keep h0 h' [] ∧
      ∀ target, Steps p.tables e below (T'.setTop (mkF m 39 #[.val (.int i0), .val (.int i1), .val (.long j2), .second, .val (.int i4), .val (.int i5), .val (.ref o6), .val (.ref o7), .unset, .unset, .unset, .unset, .unset, .unset, .unset] [])) target → Steps p.tables e below (T0.setTop (mkF m 27 #[.val (.int i0), .val (.int i1), .val (.long j2), .second, .val (.int i4), .val (.int i5), .val (.ref o6), .val (.ref o7), .unset, .unset, .unset, .unset, .unset, .unset, .unset] [])) target := by

  refine ⟨T0, _, _, X0, e0, N0, (Keep.refl h0 []), fun target kt => ?_⟩
  show Steps p.tables e below (T0.setTop (mkF m 27 #[.val (.int i0), .val (.int i1), .val (.long j2), .second, .val (.int i4), .val (.int i5), .val (.ref o6), .val (.ref o7), .unset, .unset, .unset, .unset, .unset, .unset, .unset] [])) _
  refine XS.iload X0.here hx rfl (hb hby at_27) rfl ?_
  show Steps p.tables e below (T0.setTop (mkF m 29 #[.val (.int i0), .val (.int i1), .val (.long j2), .second, .val (.int i4), .val (.int i5), .val (.ref o6), .val (.ref o7), .unset, .unset, .unset, .unset, .unset, .unset, .unset] [(.int i4)])) _
  refine XS.iconst X0.here hx rfl (hb hby at_29) ?_
  show Steps p.tables e below (T0.setTop (mkF m 30 #[.val (.int i0), .val (.int i1), .val (.long j2), .second, .val (.int i4), .val (.int i5), .val (.ref o6), .val (.ref o7), .unset, .unset, .unset, .unset, .unset, .unset, .unset] [(.int (2 : Int32)), (.int i4)])) _
  refine XS.iand X0.here hx rfl (hb hby at_30) rfl ?_
  show Steps p.tables e below (T0.setTop (mkF m 31 #[.val (.int i0), .val (.int i1), .val (.long j2), .second, .val (.int i4), .val (.int i5), .val (.ref o6), .val (.ref o7), .unset, .unset, .unset, .unset, .unset, .unset, .unset] [(.int (i4 &&& (2 : Int32)))])) _
  refine XS.ifYes X0.here hx rfl (pc0 := 31) (pc' := 39) rfl (hb hby at_31) rfl ((if0 _ _).trans (teq hc31).1) (by decide) (by decide) ?_
  exact kt
set_option maxRecDepth 65536 in
set_option maxHeartbeats 40000000 in
theorem sgB_tn {p : Program} {l : Launch} {e : Env} {s : State} {m : MethodId} {args : Array Value} {below : List Frame} {meth : Method} {c : Code} {T0 : State} {locs : List Loc} {Z : State} {a0 : Array Value} {h0 : Heap} {n0 : Nat} (i0 : Int32) (i1 : Int32) (j2 : Int64) (i4 : Int32) (i5 : Int32) (o6 : Addr)
    (X0 : Stand p l e room_1 s m args below meth c T0 locs 3 100) (hx : p.tables.exec = Jvm.exec) (hZ : Z.Warmed39 s.vm) (hw : ∀ d ∈ tables_1, d.before a0 Z = true) (hby : c.code = code) (hml : c.maxLocals = 15) (hown : s.vm.findClass "com/example/cell5/cell5/http/ReplyLengthPinLaw" = some m.cls) (e0 : T0.heap = h0) (Z0 : n0 ≤ h0.size) (N0 : Fr n0 locs) (hc31 : (i4 &&& (2 : Int32)) = (0 : Int32)) :
    ∃ (T' : State) (h' : Heap) (locs' : List Loc), Stand p l e room_1 s m args below meth c T' locs' 3 100 ∧ T'.heap = h' ∧ Fr n0 locs' ∧ Keep h0 h' [] ∧
      ∀ target, Steps p.tables e below (T'.setTop (mkF m 39 #[.val (.int i0), .val (.int i1), .val (.long j2), .second, .val (.int i4), .val (.int i5), .val (.ref o6), .val .null, .unset, .unset, .unset, .unset, .unset, .unset, .unset] [])) target → Steps p.tables e below (T0.setTop (mkF m 27 #[.val (.int i0), .val (.int i1), .val (.long j2), .second, .val (.int i4), .val (.int i5), .val (.ref o6), .val .null, .unset, .unset, .unset, .unset, .unset, .unset, .unset] [])) target := by

  refine ⟨T0, _, _, X0, e0, N0, (Keep.refl h0 []), fun target kt => ?_⟩
  show Steps p.tables e below (T0.setTop (mkF m 27 #[.val (.int i0), .val (.int i1), .val (.long j2), .second, .val (.int i4), .val (.int i5), .val (.ref o6), .val .null, .unset, .unset, .unset, .unset, .unset, .unset, .unset] [])) _
  refine XS.iload X0.here hx rfl (hb hby at_27) rfl ?_
  show Steps p.tables e below (T0.setTop (mkF m 29 #[.val (.int i0), .val (.int i1), .val (.long j2), .second, .val (.int i4), .val (.int i5), .val (.ref o6), .val .null, .unset, .unset, .unset, .unset, .unset, .unset, .unset] [(.int i4)])) _
  refine XS.iconst X0.here hx rfl (hb hby at_29) ?_
  show Steps p.tables e below (T0.setTop (mkF m 30 #[.val (.int i0), .val (.int i1), .val (.long j2), .second, .val (.int i4), .val (.int i5), .val (.ref o6), .val .null, .unset, .unset, .unset, .unset, .unset, .unset, .unset] [(.int (2 : Int32)), (.int i4)])) _
  refine XS.iand X0.here hx rfl (hb hby at_30) rfl ?_
  show Steps p.tables e below (T0.setTop (mkF m 31 #[.val (.int i0), .val (.int i1), .val (.long j2), .second, .val (.int i4), .val (.int i5), .val (.ref o6), .val .null, .unset, .unset, .unset, .unset, .unset, .unset, .unset] [(.int (i4 &&& (2 : Int32)))])) _
  refine XS.ifYes X0.here hx rfl (pc0 := 31) (pc' := 39) rfl (hb hby at_31) rfl ((if0 _ _).trans (teq hc31).1) (by decide) (by decide) ?_
  exact kt
theorem pn_0 : plainName "com/example/cell5/cell5/http/ReplyLengthPinLaw" = true := by first | (simp [plainName, overriddenIn]; done) | decide +kernel
theorem ef_0 (m : MethodId) (x0 : Int32) (x1 : Int32) (x2 : Int64) (x3 : Int32) : entryFrame m #[(.int x0), (.int x1), (.long x2), (.int x3)] maxLocals = mkF m 0 #[.val (.int x0), .val (.int x1), .val (.long x2), .second, .val (.int x3), .unset, .unset, .unset, .unset, .unset, .unset, .unset, .unset, .unset, .unset] [] := by first | (simp [entryFrame, mkF, argsToLocals, Value.category, maxLocals]; done) | rfl
theorem own_atoms (d : Jvm.Cond) (hd : d ∈ Bundle.stringAtoms) : d ∈ tables_1 := by
  simp only [Bundle.stringAtoms, List.mem_cons, List.not_mem_nil, or_false] at hd
  rcases hd with rfl | rfl | rfl | rfl | rfl | rfl | rfl
  · exact List.mem_of_getElem? (i := 2) rfl
  · exact List.mem_of_getElem? (i := 3) rfl
  · exact List.mem_of_getElem? (i := 0) rfl
  · exact List.mem_of_getElem? (i := 4) rfl
  · exact List.mem_of_getElem? (i := 5) rfl
  · exact List.mem_of_getElem? (i := 6) rfl
  · exact List.mem_of_getElem? (i := 7) rfl
def Q0 (Z : State) (p1 : Int32) (p2 : Int32) (q3 : Int64) (p4 : Int32) (h0 : Heap) (n0 : Nat) (v : Option Value) (h : Heap) (L : List Loc) : Prop := v = some (.int (1 : Int32)) ∧ Fr n0 L
set_option maxRecDepth 65536 in
set_option maxHeartbeats 40000000 in
theorem rm0 (l : Launch) (Z : State) (a0 : Array Value) (hw : ∀ d ∈ tables_1, d.before a0 Z = true) (ws : List Jvm.Cond) (p1 : Int32) (p2 : Int32) (q3 : Int64) (p4 : Int32) (h0 : Heap) (n0 : Nat) (Z0 : n0 ≤ h0.size) :
    MetFree l x (head1 (Jvm.Cond.code x code maxLocals ret :: ws) room_1) (fun a U => a = #[(.int p1), (.int p2), (.long q3), (.int p4)] ∧ Z.Warmed39 U.vm ∧ U.heap = h0) (fun _ _ _ _ _ => True) (fun _ U o U' => ∃ v L, o = .returned v ∧ Q0 Z p1 p2 q3 p4 h0 n0 v U'.heap L ∧ ReturnedEndW U o U' L 11 219) := by
  refine MetFree.of_bodySF (plainFor_of_name pn_0) hisR ?_
  intro p e s m args below meth c s₁ Bd hml0 hP hK
  obtain ⟨rfl, hZ, hh⟩ := hP
  have hx := Bd.exec
  have hby := Bd.bytes
  have hml : c.maxLocals = 15 := hml0
  have hown : s.vm.findClass "com/example/cell5/cell5/http/ReplyLengthPinLaw" = some m.cls := findClass_of_methodNamed Bd.named
  have hnm := (name_of_methodNamed Bd.named Bd.method).1
  have X0 : Stand p l e room_1 s m #[(.int p1), (.int p2), (.long q3), (.int p4)] below meth c s₁ [] 0 0 := Stand.of_body Bd
  have e0 : s₁.heap = h0 := by rw [← hh, Bd.state]; rfl
  have N0 := Fr.nil n0
  have pre0 : ∀ t, Steps p.tables e below (s₁.setTop (mkF m 0 #[.val (.int p1), .val (.int p2), .val (.long q3), .second, .val (.int p4), .unset, .unset, .unset, .unset, .unset, .unset, .unset, .unset, .unset, .unset] [])) t → Steps p.tables e below (s₁.setTop (entryFrame m #[(.int p1), (.int p2), (.long q3), (.int p4)] maxLocals)) t := fun t k => castTop (ef_0 m p1 p2 q3 p4) k
  obtain ⟨vm1, T1, h1, b, k7, v7, k1, rv7, X1, e1, K1, V1, hS1, hk1, hZ1, hown1, st1⟩ : ∃ (vm1 : Vm) (T1 : State) (h1 : Heap) (b : Addr) (k7 : ClassId) (v7 : Value) (k1 : Nat), v7.isRef = true ∧ Stand p l e room_1 (s.setVm vm1) m #[(.int p1), (.int p2), (.long q3), (.int p4)] below meth c T1 [] 3 100 ∧ T1.heap = h1 ∧ Keep h0 h1 [] ∧ Arv Z h1 b k7 .byte (p2 &&& (15 : Int32)) [] (.int (0 : Int32)) ∧ s.Since vm1 k1 ∧ k1 ≤ h1.size ∧ Z.Warmed39 (s.setVm vm1).vm ∧ (s.setVm vm1).vm.findClass "com/example/cell5/cell5/http/ReplyLengthPinLaw" = some m.cls ∧ ∀ target, Steps p.tables e below (T1.setTop (mkF m 27 #[.val (.int p1), .val (.int p2), .val (.long q3), .second, .val (.int p4), .val (.int (p2 &&& (15 : Int32))), .val (.ref b), .val v7, .unset, .unset, .unset, .unset, .unset, .unset, .unset] [])) target → Steps p.tables e below (s₁.setTop (mkF m 0 #[.val (.int p1), .val (.int p2), .val (.long q3), .second, .val (.int p4), .unset, .unset, .unset, .unset, .unset, .unset, .unset, .unset, .unset, .unset] [])) target := by
    by_cases hc16 : (p4 &&& (1 : Int32)) = (0 : Int32)
    · obtain ⟨T', h', b, k7, X', e', K', V', st⟩ := sgA_t p1 p2 q3 p4 X0 hx hZ hw hby hml hown e0 Z0 N0 hc16
      obtain ⟨a, T2, h2, k2, X2, e2, E2, hS2, hk2, hZ2, hown2, st2⟩ := ldcS (s := s) (vm0 := s.vm) X' hx hZ hown (hw _ (List.mem_of_getElem? (i := 1) rfl)) (fun d hd => hw d (own_atoms d hd)) e' ((State.WarmedH.refl s).since h'.size) (Nat.le_refl _) (g := (mkF m 23 #[.val (.int p1), .val (.int p2), .val (.long q3), .second, .val (.int p4), .val (.int (p2 &&& (15 : Int32))), .val (.ref b), .unset, .unset, .unset, .unset, .unset, .unset, .unset, .unset] [])) rfl (hb hby at_23) (n := 64) (by decide) (by decide) (by decide) (by decide)
      refine ⟨T2.vm, T2, h2, b, k7, .ref a, k2, rfl, X2.more (by decide) (by decide), e2, K'.ext E2, V'.ext E2, hS2, hk2, hZ2, hown2, fun target kt => st target (st2 target ?_)⟩
      refine XS.astore X2.here hx rfl (hb hby at_25) rfl rfl (l' := #[.val (.int p1), .val (.int p2), .val (.long q3), .second, .val (.int p4), .val (.int (p2 &&& (15 : Int32))), .val (.ref b), .val (.ref a), .unset, .unset, .unset, .unset, .unset, .unset, .unset]) rfl ?_
      exact kt
    · obtain ⟨T', h', b, k7, X', e', K', V', st⟩ := sgA_f p1 p2 q3 p4 X0 hx hZ hw hby hml hown e0 Z0 N0 hc16
      exact ⟨s.vm, T', h', b, k7, .null, h'.size, rfl, X'.more (by decide) (by decide), e', K', V', (State.WarmedH.refl s).since _, Nat.le_refl _, hZ, hown, st⟩
  have Z1 := Nat.le_trans Z0 K1.1
  obtain ⟨vm2, T2, h2, l2, a8, k2, X2, e2, N2, K2, V2, hS2, hk2, hZ2, hown2, st2⟩ : ∃ (vm2 : Vm) (T2 : State) (h2 : Heap) (l2 : List Loc) (a8 : Addr) (k2 : Nat), Stand p l e room_1 (s.setVm vm2) m #[(.int p1), (.int p2), (.long q3), (.int p4)] below meth c T2 l2 5 200 ∧ T2.heap = h2 ∧ Fr n0 l2 ∧ Keep h1 h2 [] ∧ Arv Z h2 b k7 .byte (p2 &&& (15 : Int32)) [] (.int (0 : Int32)) ∧ s.Since vm2 k2 ∧ k2 ≤ h2.size ∧ Z.Warmed39 (s.setVm vm2).vm ∧ (s.setVm vm2).vm.findClass "com/example/cell5/cell5/http/ReplyLengthPinLaw" = some m.cls ∧ ∀ target, Steps p.tables e below (T2.setTop (mkF m 43 #[.val (.int p1), .val (.int p2), .val (.long q3), .second, .val (.int p4), .val (.int (p2 &&& (15 : Int32))), .val (.ref b), .val v7, .val (.ref a8), .unset, .unset, .unset, .unset, .unset, .unset] [])) target → Steps p.tables e below (T1.setTop (mkF m 27 #[.val (.int p1), .val (.int p2), .val (.long q3), .second, .val (.int p4), .val (.int (p2 &&& (15 : Int32))), .val (.ref b), .val v7, .unset, .unset, .unset, .unset, .unset, .unset, .unset] [])) target := by
    rcases ref_cases rv7 with rfl | ⟨x7, rfl⟩
    · by_cases hc31 : (p4 &&& (2 : Int32)) = (0 : Int32)
      · obtain ⟨T', h', l', X', e', N', K', st⟩ := sgB_tn p1 p2 q3 p4 (p2 &&& (15 : Int32)) b X1 hx hZ1 hw hby hml hown1 e1 Z1 N0 hc31
        obtain ⟨a, T2, h2, k2, X2, e2, E2, hS2, hk2, hZ2, hown2, st2⟩ := ldcS (s := s) (vm0 := vm1) X' hx hZ1 hown1 (hw _ (List.mem_of_getElem? (i := 8) rfl)) (fun d hd => hw d (own_atoms d hd)) e' hS1 (Nat.le_trans hk1 K'.1) (g := (mkF m 39 #[.val (.int p1), .val (.int p2), .val (.long q3), .second, .val (.int p4), .val (.int (p2 &&& (15 : Int32))), .val (.ref b), .val .null, .unset, .unset, .unset, .unset, .unset, .unset, .unset] [])) rfl (hb hby at_39) (n := 64) (by decide) (by decide) (by decide) (by decide)
        refine ⟨T2.vm, T2, h2, l', a, k2, X2.more (by decide) (by decide), e2, N', K'.ext E2, (V1.keep K' List.not_mem_nil).ext E2, hS2, hk2, hZ2, hown2, fun target kt => st target (st2 target ?_)⟩
        refine XS.astore X2.here hx rfl (hb hby at_41) rfl rfl (l' := #[.val (.int p1), .val (.int p2), .val (.long q3), .second, .val (.int p4), .val (.int (p2 &&& (15 : Int32))), .val (.ref b), .val .null, .val (.ref a), .unset, .unset, .unset, .unset, .unset, .unset]) rfl ?_
        exact kt
      · obtain ⟨T', h', l', X', e', N', K', st⟩ := sgB_fn p1 p2 q3 p4 (p2 &&& (15 : Int32)) b X1 hx hZ1 hw hby hml hown1 e1 Z1 N0 hc31
        obtain ⟨a, T2, h2, k2, X2, e2, E2, hS2, hk2, hZ2, hown2, st2⟩ := ldcS (s := s) (vm0 := vm1) X' hx hZ1 hown1 (hw _ (List.mem_of_getElem? (i := 64) rfl)) (fun d hd => hw d (own_atoms d hd)) e' hS1 (Nat.le_trans hk1 K'.1) (g := (mkF m 34 #[.val (.int p1), .val (.int p2), .val (.long q3), .second, .val (.int p4), .val (.int (p2 &&& (15 : Int32))), .val (.ref b), .val .null, .unset, .unset, .unset, .unset, .unset, .unset, .unset] [])) rfl (hb hby at_34) (n := 64) (by decide) (by decide) (by decide) (by decide)
        refine ⟨T2.vm, T2, h2, l', a, k2, X2.more (by decide) (by decide), e2, N', K'.ext E2, (V1.keep K' List.not_mem_nil).ext E2, hS2, hk2, hZ2, hown2, fun target kt => st target (st2 target ?_)⟩
        refine XS.goto X2.here hx rfl (pc0 := 36) (pc' := 41) rfl (hb hby at_36) (by decide) (by decide) ?_
        refine XS.astore X2.here hx rfl (hb hby at_41) rfl rfl (l' := #[.val (.int p1), .val (.int p2), .val (.long q3), .second, .val (.int p4), .val (.int (p2 &&& (15 : Int32))), .val (.ref b), .val .null, .val (.ref a), .unset, .unset, .unset, .unset, .unset, .unset]) rfl ?_
        exact kt
    · by_cases hc31 : (p4 &&& (2 : Int32)) = (0 : Int32)
      · obtain ⟨T', h', l', X', e', N', K', st⟩ := sgB_tr p1 p2 q3 p4 (p2 &&& (15 : Int32)) b x7 X1 hx hZ1 hw hby hml hown1 e1 Z1 N0 hc31
        obtain ⟨a, T2, h2, k2, X2, e2, E2, hS2, hk2, hZ2, hown2, st2⟩ := ldcS (s := s) (vm0 := vm1) X' hx hZ1 hown1 (hw _ (List.mem_of_getElem? (i := 8) rfl)) (fun d hd => hw d (own_atoms d hd)) e' hS1 (Nat.le_trans hk1 K'.1) (g := (mkF m 39 #[.val (.int p1), .val (.int p2), .val (.long q3), .second, .val (.int p4), .val (.int (p2 &&& (15 : Int32))), .val (.ref b), .val (.ref x7), .unset, .unset, .unset, .unset, .unset, .unset, .unset] [])) rfl (hb hby at_39) (n := 64) (by decide) (by decide) (by decide) (by decide)
        refine ⟨T2.vm, T2, h2, l', a, k2, X2.more (by decide) (by decide), e2, N', K'.ext E2, (V1.keep K' List.not_mem_nil).ext E2, hS2, hk2, hZ2, hown2, fun target kt => st target (st2 target ?_)⟩
        refine XS.astore X2.here hx rfl (hb hby at_41) rfl rfl (l' := #[.val (.int p1), .val (.int p2), .val (.long q3), .second, .val (.int p4), .val (.int (p2 &&& (15 : Int32))), .val (.ref b), .val (.ref x7), .val (.ref a), .unset, .unset, .unset, .unset, .unset, .unset]) rfl ?_
        exact kt
      · obtain ⟨T', h', l', X', e', N', K', st⟩ := sgB_fr p1 p2 q3 p4 (p2 &&& (15 : Int32)) b x7 X1 hx hZ1 hw hby hml hown1 e1 Z1 N0 hc31
        obtain ⟨a, T2, h2, k2, X2, e2, E2, hS2, hk2, hZ2, hown2, st2⟩ := ldcS (s := s) (vm0 := vm1) X' hx hZ1 hown1 (hw _ (List.mem_of_getElem? (i := 64) rfl)) (fun d hd => hw d (own_atoms d hd)) e' hS1 (Nat.le_trans hk1 K'.1) (g := (mkF m 34 #[.val (.int p1), .val (.int p2), .val (.long q3), .second, .val (.int p4), .val (.int (p2 &&& (15 : Int32))), .val (.ref b), .val (.ref x7), .unset, .unset, .unset, .unset, .unset, .unset, .unset] [])) rfl (hb hby at_34) (n := 64) (by decide) (by decide) (by decide) (by decide)
        refine ⟨T2.vm, T2, h2, l', a, k2, X2.more (by decide) (by decide), e2, N', K'.ext E2, (V1.keep K' List.not_mem_nil).ext E2, hS2, hk2, hZ2, hown2, fun target kt => st target (st2 target ?_)⟩
        refine XS.goto X2.here hx rfl (pc0 := 36) (pc' := 41) rfl (hb hby at_36) (by decide) (by decide) ?_
        refine XS.astore X2.here hx rfl (hb hby at_41) rfl rfl (l' := #[.val (.int p1), .val (.int p2), .val (.long q3), .second, .val (.int p4), .val (.int (p2 &&& (15 : Int32))), .val (.ref b), .val (.ref x7), .val (.ref a), .unset, .unset, .unset, .unset, .unset, .unset]) rfl ?_
        exact kt
  have Z2 := Nat.le_trans Z1 K2.1
  obtain ⟨T3, h3, l3, Ls, X3, e3, N3, K3, st3⟩ : ∃ (T' : State) (h' : Heap) (locs' : List Loc) (Ls : Array Slot), Stand p l e room_1 (s.setVm vm2) m #[(.int p1), (.int p2), (.long q3), (.int p4)] below meth c T' locs' 11 219 ∧ T'.heap = h' ∧ Fr n0 locs' ∧ Keep h2 h' [] ∧ ∀ target, Steps p.tables e below (T'.setTop (mkF m 167 Ls [(.int (1 : Int32))])) target → Steps p.tables e below (T2.setTop (mkF m 43 #[.val (.int p1), .val (.int p2), .val (.long q3), .second, .val (.int p4), .val (.int (p2 &&& (15 : Int32))), .val (.ref b), .val v7, .val (.ref a8), .unset, .unset, .unset, .unset, .unset, .unset] [])) target := by
    rcases ref_cases rv7 with rfl | ⟨x7, rfl⟩
    · exact sgZ_n p1 p2 q3 p4 (p2 &&& (15 : Int32)) b a8 X2 hx hZ2 hw hby hml hown2 e2 Z2 N2 V2 (by decide) (by decide) (by decide)
    · exact sgZ_r p1 p2 q3 p4 (p2 &&& (15 : Int32)) b x7 a8 X2 hx hZ2 hw hby hml hown2 e2 Z2 N2 V2 (by decide) (by decide) (by decide)
  obtain ⟨fs, hr, hrun, hended, hEnd⟩ := X3.leaveW hS2 (by rw [e3]; exact Nat.le_trans hk2 K3.1) (v := some (.int (1 : Int32))) (fun h => by rw [Bd.returns] at h; cases h)
  refine ⟨_, _, pre0 _ (st1 _ (st2 _ (st3 _ ?_))), hrun, hended, _, _, rfl, ⟨rfl, N3⟩, hEnd⟩
  exact retN X3 hx (t := .boolean) Bd.returns (by simp) (hb hby at_167) hr
set_option maxRecDepth 65536 in
set_option maxHeartbeats 40000000 in
theorem comes_1 {Post : Tables → Env → Array Value → State → Outcome → State → Prop} (hpost : ∀ tb e args s v u, (limb_1_1.after args s (.returned v) u = true ∧ limb_1_2.after args s (.returned v) u = true ∧ True) → FramedW s (.returned v) u (Jvm.fieldLocs frame_1_writes args s ++ Jvm.arrayLocs frame_1_arrays args s ++ Jvm.staticLocs frame_1_statics s) 32 3264 → Post tb e args s (.returned v) u) :
    ArmFor flags0 classFile x code maxLocals ret World_1 tables_1 room_1 Calls_1 rest_1 Pre_1 Post := by
  intro l hfl _ _ p e ha hc hk s m args below hf hA hF happ hP
  obtain ⟨hcalls, hrest, hpre⟩ := hP
  obtain ⟨-, -, -, hnamed, -, -, -, hat⟩ := (Spec.applies_iff hf).mp happ
  obtain ⟨hg, hn⟩ := and_e (Cond.before_iff.mp (show (Jvm.Cond.and given_1 narrow_1).before args s = true from hpre))
  obtain ⟨g1, g2⟩ := and_e hg
  obtain ⟨g3, g4⟩ := and_e g2
  obtain ⟨g5, g6⟩ := and_e g4
  obtain ⟨g7, g8⟩ := and_e g6
  obtain ⟨w0, w1, w2, w3, rfl⟩ : ∃ w0 w1 w2 w3 : Value, args = #[w0, w1, w2, w3] := by
    have hs : args.size = 4 := by simpa [Cond.value, given_1] using g1
    obtain ⟨L⟩ := args
    match L, hs with
    | [w0, w1, w2, w3], _ => exact ⟨w0, w1, w2, w3, rfl⟩
  have hw := fun d (hd : d ∈ tables_1) => atoms_spec (ws := Jvm.Cond.code x code maxLocals ret :: tables_1) hat d (List.mem_cons_of_mem _ hd)
  obtain ⟨i0, ei0⟩ := is_v g3
  obtain rfl : w0 = (.int i0) := Option.some.inj ei0
  obtain ⟨i1, ei1⟩ := is_v g5
  obtain rfl : w1 = (.int i1) := Option.some.inj ei1
  obtain ⟨i2, ei2⟩ := isL_v g7
  obtain rfl : w2 = (.long i2) := Option.some.inj ei2
  obtain ⟨i3, ei3⟩ := is_v g8
  obtain rfl : w3 = (.int i3) := Option.some.inj ei3
  obtain ⟨n, o, h1, h2, h3, _, L, rfl, ⟨rfl, N⟩, hq⟩ := rm0 l s _ hw tables_1 i0 i1 i2 i3 s.heap s.heap.size (Nat.le_refl _) p e ha hc hk s m _ below hf ((Spec.applies_iff_loose hf).mp happ).1 ⟨rfl, State.Warmed39.refl s, rfl⟩ trivial
  refine ⟨n, _, h1, h2, h3, hpost _ _ _ _ _ _ ⟨Cond.after_iff.mpr rfl, Cond.after_iff.mpr (eq_i res_at (Term.int_eval (1)) rfl), trivial⟩ ⟨hq.1, hq.2.1, hq.2.2.1, (hq.2.2.2.sift fun y hy => Or.inr (N y hy)).mono (by decide) (by decide)⟩⟩
theorem main_1_1 : Claimed_1_1 := comes_1 fun _ _ _ _ _ _ h hF => ⟨h.1, hF⟩
theorem main_1_2 : Claimed_1_2 := comes_1 fun _ _ _ _ _ _ h hF => ⟨h.2.1, hF⟩
end Jvm.Pilot.@@N@@
namespace Jvm.Pilot.@@N@@
open Jvm Jvm.ClassFile Sem Op Lib Jvm.Free Jvm.Stand Jvm.Pilot.@@N@@.Jvm.D
/-! MADE BY PROGRAM (witnessworld.py) out of the Statement's table words and the real class files: 16 classes; the members and pool entries that the words name. The judged class is class 1, her method 1. -/
namespace start1
open Jvm.ClassFile
def u (s : String) : CpInfo := .utf8 (stringToUtf16 s)
/-- a pool by its gaps: so many unusable entries, then the entry; so many at the end -/
def gap : Nat → List CpInfo → List CpInfo
  | 0, r => r
  | n + 1, r => .unusable :: gap n r
def poolList (es : List (Nat × CpInfo)) (last : Nat) : List CpInfo := es.foldr (fun e r => gap e.1 (e.2 :: r)) (gap last [])
def pool (es : List (Nat × CpInfo)) (last : Nat) : Array CpInfo := ⟨poolList es last⟩
def fileOf (pool : Array CpInfo) (this : Nat) (attrs : Array Attribute := #[]) (ms : Array MethodInfo := #[]) (fl : Nat := 33) (sup : Nat := 0) (ifs : Array Nat := #[]) (fds : Array FieldInfo := #[]) : ClassFile where
  minorVersion := 0
  majorVersion := 65
  constantPool := pool
  accessFlags := fl
  thisClass := this
  superClass := sup
  interfaces := ifs
  fields := fds
  methods := ms
  attributes := attrs
def plain (name : String) (sup : Option ClassId) : Class where
  name := name
  kind := .ordinary
  loader := none
  accessFlags := 33
  super := sup
  interfaces := #[]
  cf := none
  fields := #[]
  methods := #[]
  instanceTypes := #[]
  staticTypes := #[]
  resolved := #[]
  callSites := []
  init := .initialized
  statics := none
  mirror := none

def pool0 : Array CpInfo := pool [(5, u "<init>"), (0, u "()V"), (1, .class_ 10), (1, u "java/lang/Object")] 113

def k0c0 : Code := { maxStack := 0, maxLocals := 1, code := object_method_1_code, exceptionTable := #[], attributes := #[] }
def k0m0 : Method := { name := "<init>", desc := "()V", sig := { parameters := [], returnType := none }, accessFlags := 1, code := some k0c0 }
/-- java/lang/Object -/
def k0 : Class := { plain "java/lang/Object" none with
  accessFlags := 33
  interfaces := #[]
  cf := some (fileOf pool0 8 #[] #[{ accessFlags := 1, nameIndex := 5, descriptorIndex := 6, attributes := #[] }] 33 0 #[] #[])
  fields := #[]
  methods := #[k0m0]
  instanceTypes := #[]
  staticTypes := #[]
  resolved := Array.replicate 124 none
  statics := none }

def pool1 : Array CpInfo := pool [(2, .class_ 4), (1, u "java/lang/Object"), (0, u "<init>"), (0, u "()V"), (0, .string 8), (0, u "/x"), (0, .class_ 10), (0, u "com/example/cell5/cell5/http/Reply"), (0, .string 12), (0, u "application/json"), (0, .string 14), (0, u "text/plain"), (0, .methodref 9 16), (0, .nameAndType 5 17), (0, u "(I[BLjava/lang/String;Ljava/lang/String;)V"), (0, .methodref 9 19), (0, .nameAndType 20 21), (0, u "streamed"), (0, u "(ILjava/lang/String;JLjava/io/InputStream;)Lcom/example/cell5/cell5/http/Reply;"), (0, .class_ 23), (0, u "com/example/cell5/cell5/http/Reply$Streamed"), (0, .methodref 22 25), (0, .nameAndType 5 26), (0, u "(JLjava/io/InputStream;)V"), (0, .methodref 9 28), (0, .nameAndType 5 29), (0, u "(I[BLjava/lang/String;Ljava/lang/String;Lcom/example/cell5/cell5/http/Reply$Streamed;)V"), (0, .methodref 9 31), (0, .nameAndType 32 33), (0, u "length"), (0, u "()J"), (0, .class_ 35), (0, u "com/example/cell5/cell5/http/ReplyLengthPinLaw"), (2, u "law"), (0, u "(IIJI)Z")] 9

def k1m0 : Method := { name := "<init>", desc := "()V", sig := { parameters := [], returnType := none }, accessFlags := 1, code := none }
def k1c1 : Code := { maxStack := 11, maxLocals := 15, code := code, exceptionTable := #[], attributes := #[] }
def k1m1 : Method := { name := "law", desc := "(IIJI)Z", sig := { parameters := [.int, .int, .long, .int], returnType := some .boolean }, accessFlags := 9, code := some k1c1 }
/-- com/example/cell5/cell5/http/ReplyLengthPinLaw -/
def k1 : Class := { plain "com/example/cell5/cell5/http/ReplyLengthPinLaw" (some 0) with
  accessFlags := 49
  interfaces := #[]
  cf := some (fileOf pool1 34 #[] #[{ accessFlags := 1, nameIndex := 5, descriptorIndex := 6, attributes := #[] }, { accessFlags := 9, nameIndex := 38, descriptorIndex := 39, attributes := #[] }] 49 2 #[] #[])
  fields := #[]
  methods := #[k1m0, k1m1]
  instanceTypes := #[]
  staticTypes := #[]
  resolved := Array.replicate 49 none
  statics := none }

def pool2 : Array CpInfo := pool [(1, .class_ 2), (0, u "java/io/Serializable"), (0, .class_ 4), (0, u "java/lang/Object")] 2

/-- java/io/Serializable -/
def k2 : Class := { plain "java/io/Serializable" (some 0) with
  accessFlags := 1537
  interfaces := #[]
  cf := some (fileOf pool2 1 #[] #[] 1537 3 #[] #[])
  fields := #[]
  methods := #[]
  instanceTypes := #[]
  staticTypes := #[]
  resolved := Array.replicate 7 none
  statics := none }

def pool3 : Array CpInfo := pool [(1, .class_ 2), (0, u "java/lang/Comparable"), (0, .class_ 4), (0, u "java/lang/Object")] 7

/-- java/lang/Comparable -/
def k3 : Class := { plain "java/lang/Comparable" (some 0) with
  accessFlags := 1537
  interfaces := #[]
  cf := some (fileOf pool3 1 #[] #[] 1537 3 #[] #[])
  fields := #[]
  methods := #[]
  instanceTypes := #[]
  staticTypes := #[]
  resolved := Array.replicate 12 none
  statics := none }

def pool4 : Array CpInfo := pool [(2, .class_ 4), (1, u "java/lang/CharSequence"), (42, .class_ 48), (0, u "java/lang/CharSequence$1CodePointIterator"), (10, .class_ 60), (0, u "java/lang/CharSequence$1CharIterator"), (5, .class_ 67), (0, u "java/lang/Object")] 63

/-- java/lang/CharSequence -/
def k4 : Class := { plain "java/lang/CharSequence" (some 0) with
  accessFlags := 1537
  interfaces := #[]
  cf := some (fileOf pool4 2 #[.nestMembers #[47, 59]] #[] 1537 66 #[] #[])
  fields := #[]
  methods := #[]
  instanceTypes := #[]
  staticTypes := #[]
  resolved := Array.replicate 131 none
  statics := none }

def pool5 : Array CpInfo := pool [(1, .class_ 2), (0, u "java/lang/constant/Constable"), (0, .class_ 4), (0, u "java/lang/Object")] 6

/-- java/lang/constant/Constable -/
def k5 : Class := { plain "java/lang/constant/Constable" (some 0) with
  accessFlags := 1537
  interfaces := #[]
  cf := some (fileOf pool5 1 #[] #[] 1537 3 #[] #[])
  fields := #[]
  methods := #[]
  instanceTypes := #[]
  staticTypes := #[]
  resolved := Array.replicate 11 none
  statics := none }

def pool6 : Array CpInfo := pool [(1, .class_ 2), (0, u "java/lang/constant/ConstantDesc"), (0, .class_ 4), (0, u "java/lang/Object")] 32

/-- java/lang/constant/ConstantDesc -/
def k6 : Class := { plain "java/lang/constant/ConstantDesc" (some 0) with
  accessFlags := 1537
  interfaces := #[]
  cf := some (fileOf pool6 1 #[] #[] 1537 3 #[] #[])
  fields := #[]
  methods := #[]
  instanceTypes := #[]
  staticTypes := #[]
  resolved := Array.replicate 37 none
  statics := none }

def pool7 : Array CpInfo := pool [(2, .class_ 4), (1, u "java/lang/Object"), (0, u "<init>"), (0, u "()V"), (3, .class_ 12), (1, u "java/lang/String"), (0, u "value"), (0, u "[B"), (2, u "coder"), (0, u "B"), (2, u "hash"), (0, u "I"), (2, u "hashIsZero"), (0, u "Z"), (13, u "COMPACT_STRINGS"), (534, .class_ 576), (0, u "java/lang/CharSequence"), (22, u "CASE_INSENSITIVE_ORDER"), (0, u "Ljava/util/Comparator;"), (500, u "serialPersistentFields"), (0, u "[Ljava/io/ObjectStreamField;"), (0, .class_ 1104), (0, u "java/lang/String$CaseInsensitiveComparator"), (1, .class_ 1107), (0, u "java/io/Serializable"), (0, .class_ 1109), (0, u "java/lang/Comparable"), (0, .class_ 1111), (0, u "java/lang/constant/Constable"), (0, .class_ 1113), (0, u "java/lang/constant/ConstantDesc"), (2, u "serialVersionUID"), (0, u "J"), (3, u "REPL"), (0, u "C"), (2, u "LATIN1"), (1, u "UTF16")] 323

def k7m0 : Method := { name := "<init>", desc := "()V", sig := { parameters := [], returnType := none }, accessFlags := 1, code := none }
/-- java/lang/String -/
def k7 : Class := { plain "java/lang/String" (some 0) with
  accessFlags := 49
  interfaces := #[2, 3, 4, 5, 6]
  cf := some (fileOf pool7 10 #[.nestMembers #[1103]] #[{ accessFlags := 1, nameIndex := 5, descriptorIndex := 6, attributes := #[] }] 49 2 #[1106, 1108, 575, 1110, 1112] #[{ accessFlags := 18, nameIndex := 13, descriptorIndex := 14, attributes := #[] }, { accessFlags := 18, nameIndex := 17, descriptorIndex := 18, attributes := #[] }, { accessFlags := 2, nameIndex := 21, descriptorIndex := 22, attributes := #[] }, { accessFlags := 2, nameIndex := 25, descriptorIndex := 26, attributes := #[] }, { accessFlags := 26, nameIndex := 1116, descriptorIndex := 1117, attributes := #[] }, { accessFlags := 24, nameIndex := 40, descriptorIndex := 26, attributes := #[] }, { accessFlags := 26, nameIndex := 1101, descriptorIndex := 1102, attributes := #[] }, { accessFlags := 26, nameIndex := 1121, descriptorIndex := 1122, attributes := #[] }, { accessFlags := 25, nameIndex := 599, descriptorIndex := 600, attributes := #[] }, { accessFlags := 24, nameIndex := 1125, descriptorIndex := 18, attributes := #[] }, { accessFlags := 24, nameIndex := 1127, descriptorIndex := 18, attributes := #[] }])
  fields := #[{ name := "value", type := (.array .byte), accessFlags := 18, slot := 0, constantValue := 0 }, { name := "coder", type := .byte, accessFlags := 18, slot := 1, constantValue := 0 }, { name := "hash", type := .int, accessFlags := 2, slot := 2, constantValue := 0 }, { name := "hashIsZero", type := .boolean, accessFlags := 2, slot := 3, constantValue := 0 }, { name := "serialVersionUID", type := .long, accessFlags := 26, slot := 0, constantValue := 0 }, { name := "COMPACT_STRINGS", type := .boolean, accessFlags := 24, slot := 1, constantValue := 0 }, { name := "serialPersistentFields", type := (.array (.object "java/io/ObjectStreamField")), accessFlags := 26, slot := 2, constantValue := 0 }, { name := "REPL", type := .char, accessFlags := 26, slot := 3, constantValue := 0 }, { name := "CASE_INSENSITIVE_ORDER", type := (.object "java/util/Comparator"), accessFlags := 25, slot := 4, constantValue := 0 }, { name := "LATIN1", type := .byte, accessFlags := 24, slot := 5, constantValue := 0 }, { name := "UTF16", type := .byte, accessFlags := 24, slot := 6, constantValue := 0 }]
  methods := #[k7m0]
  instanceTypes := #[(.array .byte), .byte, .int, .boolean]
  staticTypes := #[.long, .boolean, (.array (.object "java/io/ObjectStreamField")), .char, (.object "java/util/Comparator"), .byte, .byte]
  resolved := Array.replicate 1451 none
  statics := none }

def pool8 : Array CpInfo := pool [(1, .methodref 2 3), (0, .class_ 4), (0, .nameAndType 5 6), (0, u "java/lang/Object"), (0, u "<init>"), (0, u "()V"), (0, .class_ 8), (0, u "java/lang/Record")] 13

def k8c0 : Code := { maxStack := 1, maxLocals := 1, code := jdk_30_method_1_code, exceptionTable := #[], attributes := #[] }
def k8m0 : Method := { name := "<init>", desc := "()V", sig := { parameters := [], returnType := none }, accessFlags := 4, code := some k8c0 }
/-- java/lang/Record -/
def k8 : Class := { plain "java/lang/Record" (some 0) with
  accessFlags := 1057
  interfaces := #[]
  cf := some (fileOf pool8 7 #[] #[{ accessFlags := 4, nameIndex := 5, descriptorIndex := 6, attributes := #[] }] 1057 2 #[] #[])
  fields := #[]
  methods := #[k8m0]
  instanceTypes := #[]
  staticTypes := #[]
  resolved := Array.replicate 22 none
  statics := none }

def pool9 : Array CpInfo := pool [(1, .methodref 2 3), (0, .class_ 4), (0, .nameAndType 5 6), (0, u "java/lang/Record"), (0, u "<init>"), (0, u "()V"), (0, .fieldref 8 9), (0, .class_ 10), (0, .nameAndType 11 12), (0, u "com/example/cell5/cell5/http/Reply"), (0, u "status"), (0, u "I"), (0, .fieldref 8 14), (0, .nameAndType 15 16), (0, u "body"), (0, u "[B"), (0, .fieldref 8 18), (0, .nameAndType 19 20), (0, u "location"), (0, u "Ljava/lang/String;"), (0, .fieldref 8 22), (0, .nameAndType 23 20), (0, u "type"), (0, .fieldref 8 25), (0, .nameAndType 26 27), (0, u "streamed"), (0, u "Lcom/example/cell5/cell5/http/Reply$Streamed;"), (0, .methodref 8 29), (0, .nameAndType 5 30), (0, u "(I[BLjava/lang/String;Ljava/lang/String;Lcom/example/cell5/cell5/http/Reply$Streamed;)V"), (4, u "(I[BLjava/lang/String;Ljava/lang/String;)V"), (0, .class_ 37), (0, u "com/example/cell5/cell5/http/Reply$Streamed"), (0, .methodref 36 39), (0, .nameAndType 5 40), (0, u "(JLjava/io/InputStream;)V"), (0, .methodref 36 42), (0, .nameAndType 43 44), (0, u "length"), (0, u "()J"), (23, u "JSON"), (6, u "(ILjava/lang/String;JLjava/io/InputStream;)Lcom/example/cell5/cell5/http/Reply;")] 33

def k9c0 : Code := { maxStack := 6, maxLocals := 5, code := prog_33_method_1_code, exceptionTable := #[], attributes := #[] }
def k9m0 : Method := { name := "<init>", desc := "(I[BLjava/lang/String;Ljava/lang/String;)V", sig := { parameters := [.int, (.array .byte), (.object "java/lang/String"), (.object "java/lang/String")], returnType := none }, accessFlags := 1, code := some k9c0 }
def k9c1 : Code := { maxStack := 2, maxLocals := 6, code := prog_33_method_4_code, exceptionTable := #[], attributes := #[] }
def k9m1 : Method := { name := "<init>", desc := "(I[BLjava/lang/String;Ljava/lang/String;Lcom/example/cell5/cell5/http/Reply$Streamed;)V", sig := { parameters := [.int, (.array .byte), (.object "java/lang/String"), (.object "java/lang/String"), (.object "com/example/cell5/cell5/http/Reply$Streamed")], returnType := none }, accessFlags := 1, code := some k9c1 }
def k9c2 : Code := { maxStack := 11, maxLocals := 5, code := prog_33_method_5_code, exceptionTable := #[], attributes := #[] }
def k9m2 : Method := { name := "streamed", desc := "(ILjava/lang/String;JLjava/io/InputStream;)Lcom/example/cell5/cell5/http/Reply;", sig := { parameters := [.int, (.object "java/lang/String"), .long, (.object "java/io/InputStream")], returnType := some (.object "com/example/cell5/cell5/http/Reply") }, accessFlags := 9, code := some k9c2 }
def k9c3 : Code := { maxStack := 2, maxLocals := 1, code := prog_33_method_6_code, exceptionTable := #[], attributes := #[] }
def k9m3 : Method := { name := "length", desc := "()J", sig := { parameters := [], returnType := some .long }, accessFlags := 1, code := some k9c3 }
/-- com/example/cell5/cell5/http/Reply -/
def k9 : Class := { plain "com/example/cell5/cell5/http/Reply" (some 8) with
  accessFlags := 49
  interfaces := #[]
  cf := some (fileOf pool9 8 #[.nestMembers #[36]] #[{ accessFlags := 1, nameIndex := 5, descriptorIndex := 35, attributes := #[] }, { accessFlags := 1, nameIndex := 5, descriptorIndex := 30, attributes := #[] }, { accessFlags := 9, nameIndex := 26, descriptorIndex := 75, attributes := #[] }, { accessFlags := 1, nameIndex := 43, descriptorIndex := 44, attributes := #[] }] 49 2 #[] #[{ accessFlags := 18, nameIndex := 11, descriptorIndex := 12, attributes := #[] }, { accessFlags := 18, nameIndex := 15, descriptorIndex := 16, attributes := #[] }, { accessFlags := 18, nameIndex := 19, descriptorIndex := 20, attributes := #[] }, { accessFlags := 18, nameIndex := 23, descriptorIndex := 20, attributes := #[] }, { accessFlags := 18, nameIndex := 26, descriptorIndex := 27, attributes := #[] }, { accessFlags := 25, nameIndex := 68, descriptorIndex := 20, attributes := #[] }])
  fields := #[{ name := "status", type := .int, accessFlags := 18, slot := 0, constantValue := 0 }, { name := "body", type := (.array .byte), accessFlags := 18, slot := 1, constantValue := 0 }, { name := "location", type := (.object "java/lang/String"), accessFlags := 18, slot := 2, constantValue := 0 }, { name := "type", type := (.object "java/lang/String"), accessFlags := 18, slot := 3, constantValue := 0 }, { name := "streamed", type := (.object "com/example/cell5/cell5/http/Reply$Streamed"), accessFlags := 18, slot := 4, constantValue := 0 }, { name := "JSON", type := (.object "java/lang/String"), accessFlags := 25, slot := 0, constantValue := 0 }]
  methods := #[k9m0, k9m1, k9m2, k9m3]
  instanceTypes := #[.int, (.array .byte), (.object "java/lang/String"), (.object "java/lang/String"), (.object "com/example/cell5/cell5/http/Reply$Streamed")]
  staticTypes := #[(.object "java/lang/String")]
  resolved := Array.replicate 109 none
  statics := none }

def pool10 : Array CpInfo := pool [(1, .methodref 2 3), (0, .class_ 4), (0, .nameAndType 5 6), (0, u "java/lang/Record"), (0, u "<init>"), (0, u "()V"), (0, .fieldref 8 9), (0, .class_ 10), (0, .nameAndType 11 12), (0, u "com/example/cell5/cell5/http/Reply$Streamed"), (0, u "length"), (0, u "J"), (0, .fieldref 8 14), (0, .nameAndType 15 16), (0, u "bytes"), (0, u "Ljava/io/InputStream;"), (12, u "(JLjava/io/InputStream;)V"), (6, u "()J"), (4, .class_ 42), (0, u "com/example/cell5/cell5/http/Reply")] 20

def k10c0 : Code := { maxStack := 3, maxLocals := 4, code := prog_34_method_1_code, exceptionTable := #[], attributes := #[] }
def k10m0 : Method := { name := "<init>", desc := "(JLjava/io/InputStream;)V", sig := { parameters := [.long, (.object "java/io/InputStream")], returnType := none }, accessFlags := 1, code := some k10c0 }
def k10c1 : Code := { maxStack := 2, maxLocals := 1, code := prog_34_method_5_code, exceptionTable := #[], attributes := #[] }
def k10m1 : Method := { name := "length", desc := "()J", sig := { parameters := [], returnType := some .long }, accessFlags := 1, code := some k10c1 }
/-- com/example/cell5/cell5/http/Reply$Streamed -/
def k10 : Class := { plain "com/example/cell5/cell5/http/Reply$Streamed" (some 8) with
  accessFlags := 49
  interfaces := #[]
  cf := some (fileOf pool10 8 #[.nestHost 41] #[{ accessFlags := 1, nameIndex := 5, descriptorIndex := 29, attributes := #[] }, { accessFlags := 1, nameIndex := 11, descriptorIndex := 36, attributes := #[] }] 49 2 #[] #[{ accessFlags := 18, nameIndex := 11, descriptorIndex := 12, attributes := #[] }, { accessFlags := 18, nameIndex := 15, descriptorIndex := 16, attributes := #[] }])
  fields := #[{ name := "length", type := .long, accessFlags := 18, slot := 0, constantValue := 0 }, { name := "bytes", type := (.object "java/io/InputStream"), accessFlags := 18, slot := 1, constantValue := 0 }]
  methods := #[k10m0, k10m1]
  instanceTypes := #[.long, (.object "java/io/InputStream")]
  staticTypes := #[]
  resolved := Array.replicate 63 none
  statics := none }

def pool11 : Array CpInfo := pool [(1, u "java/lang/Cloneable"), (0, .class_ 1), (0, u "java/lang/Object"), (0, .class_ 3)] 3

/-- java/lang/Cloneable -/
def k11 : Class := { plain "java/lang/Cloneable" (some 0) with
  accessFlags := 1537
  interfaces := #[]
  cf := some (fileOf pool11 2 #[] #[] 1537 4 #[] #[])
  fields := #[]
  methods := #[]
  instanceTypes := #[]
  staticTypes := #[]
  resolved := Array.replicate 8 none
  statics := none }

/-- the primitive byte -/
def k12 : Class := { plain "byte" none with kind := .primitive 'B', accessFlags := 0x411 }
/-- [B -/
def k13 : Class := { plain "[B" (some 0) with kind := .array 12 .byte, interfaces := #[11, 2], accessFlags := 1041 }

/-- the primitive int -/
def k14 : Class := { plain "int" none with kind := .primitive 'I', accessFlags := 0x411 }
/-- [I -/
def k15 : Class := { plain "[I" (some 0) with kind := .array 14 .int, interfaces := #[11, 2], accessFlags := 1041 }

def heap : Heap := #[]
def classes : Array Class := #[k0, k1, k2, k3, k4, k5, k6, k7, k8, k9, k10, k11, k12, k13, k14, k15]
def interned : List (Array UInt16 × Addr) := []
def slotsUsed : Nat := 0
def theMethod : MethodId := ⟨1, 1⟩
def args0 : Array Value := #[.int 3, .int 1, .long 2, .int 3]
def aboutOver (below : List Frame) : State where
  vm := { classes := classes, interned := interned.toArray }
  heap := heap
  slotsUsed := slotsUsed
  threads := #[{ frames := .invoking theMethod args0 :: below }]
def below0 : List Frame := [.native { method := ⟨0, 0⟩, args := #[] }]
def about1 : State := aboutOver below0
def p0 : Program := .bare "" "" ""
def e0 : Env := launch0.env 0 0 0
theorem w_frames : about1.frames = Frame.invoking theMethod args0 :: below0 := rfl
set_option maxRecDepth 65536 in
theorem w_args : argsFit about1.vm theMethod args0 = true := by decide +kernel
set_option maxRecDepth 65536 in
theorem w_heap : heapFits about1 = true := by decide +kernel
set_option maxRecDepth 65536 in
theorem w_runnable : about1.curStatus? = some .runnable := by decide +kernel
set_option maxRecDepth 65536 in
theorem w_alone : about1.alone = true := by decide +kernel
set_option maxRecDepth 65536 in
theorem w_named : about1.methodNamed? x = some theMethod := by decide +kernel
set_option maxRecDepth 65536 in
theorem w_hears : about1.hears theMethod below0 = true := by decide +kernel
set_option maxRecDepth 65536 in
theorem w_ripe : about1.ripe theMethod args0 below0 = true := by decide +kernel
theorem w_running : about1.status = .running := rfl
set_option maxRecDepth 65536 in
theorem w_room : about1.hasRoom e0.platform room_1 = true :=
  launch0.hasRoom_least _ room_1 (by decide +kernel) (by decide +kernel) (by decide +kernel) (by decide +kernel) (by decide +kernel) (by decide +kernel)
theorem allAtoms_all (ts : List Jvm.Cond) (a : Array Jvm.Value) (st : Jvm.State) : (allAtoms ts).before a st = ts.all (fun c => c.before a st) := by
  induction ts with
  | nil => rfl
  | cons c t ih =>
    show (Jvm.Cond.and c (allAtoms t)).before a st = _
    rw [Jvm.Cond.before_and, ih, List.all_cons]
def words1 : List Jvm.Cond := Jvm.Cond.code x code maxLocals ret :: tables_1
/-- a 'code' word, met by the world's own term for the bytes: nothing is compared byte by byte -/
theorem code_word {y : MethodName} {bytes : ByteArray} {mx : Nat} {rt : Option FieldType} {a : Array Value} {s : State} {m : MethodId} {meth : Method} {c : Code} (h1 : s.methodNamed? y = some m) (h2 : s.vm.method? m = some meth) (h3 : meth.code = some c) (h4 : c.code = bytes)
    (h5 : (c.maxLocals == mx && c.exceptionTable.isEmpty && decide (c.maxStack ≤ mostOperands) && decide (meth.sig.returnType = rt) && !meth.locks && decide (parseMethodDescriptor y.desc = some meth.sig)) = true) : (Jvm.Cond.code y bytes mx rt).before a s = true := by
  simp only [Bool.and_eq_true, beq_iff_eq, Bool.not_eq_true', decide_eq_true_eq] at h5
  obtain ⟨⟨⟨⟨⟨g1, g2⟩, g3⟩, g4⟩, g5⟩, g6⟩ := h5
  simp [Cond.before, Cond.holds, Cond.value, h1, h2, h3, h4, g1, g2, g3, g4, g5, g6]
def isCode : Jvm.Cond → Bool
  | .code _ _ _ _ => true
  | _ => false
theorem all_split {L : List Jvm.Cond} {P : Jvm.Cond → Bool} (h1 : L.all (fun c => isCode c || P c) = true) (h2 : ∀ c ∈ L.filter isCode, P c = true) : L.all P = true := by
  refine List.all_eq_true.mpr fun c hc => ?_
  have h := List.all_eq_true.mp h1 c hc
  rcases Bool.eq_false_or_eq_true (isCode c) with hi | hi
  · exact h2 c (List.mem_filter.mpr ⟨hc, hi⟩)
  · simpa [hi] using h
set_option maxRecDepth 65536 in
theorem w_c0 : (Jvm.Cond.code x code maxLocals ret).before args0 about1 = true := code_word (m := ⟨1, 1⟩) (meth := k1m1) (c := k1c1) (by decide +kernel) rfl rfl rfl (by decide +kernel)
set_option maxRecDepth 65536 in
theorem w_c1 : (Jvm.Cond.code ({ cls := "com/example/cell5/cell5/http/Reply", name := "<init>", desc := "(I[BLjava/lang/String;Ljava/lang/String;)V" } : Jvm.MethodName) prog_33_method_1_code (5 : Nat) (Option.none : Option Jvm.ClassFile.FieldType)).before args0 about1 = true := code_word (m := ⟨9, 0⟩) (meth := k9m0) (c := k9c0) (by decide +kernel) rfl rfl rfl (by decide +kernel)
set_option maxRecDepth 65536 in
theorem w_c2 : (Jvm.Cond.code ({ cls := "com/example/cell5/cell5/http/Reply", name := "<init>", desc := "(I[BLjava/lang/String;Ljava/lang/String;Lcom/example/cell5/cell5/http/Reply$Streamed;)V" } : Jvm.MethodName) prog_33_method_4_code (6 : Nat) (Option.none : Option Jvm.ClassFile.FieldType)).before args0 about1 = true := code_word (m := ⟨9, 1⟩) (meth := k9m1) (c := k9c1) (by decide +kernel) rfl rfl rfl (by decide +kernel)
set_option maxRecDepth 65536 in
theorem w_c3 : (Jvm.Cond.code ({ cls := "java/lang/Record", name := "<init>", desc := "()V" } : Jvm.MethodName) jdk_30_method_1_code (1 : Nat) (Option.none : Option Jvm.ClassFile.FieldType)).before args0 about1 = true := code_word (m := ⟨8, 0⟩) (meth := k8m0) (c := k8c0) (by decide +kernel) rfl rfl rfl (by decide +kernel)
set_option maxRecDepth 65536 in
theorem w_c4 : (Jvm.Cond.code ({ cls := "java/lang/Object", name := "<init>", desc := "()V" } : Jvm.MethodName) object_method_1_code (1 : Nat) (Option.none : Option Jvm.ClassFile.FieldType)).before args0 about1 = true := code_word (m := ⟨0, 0⟩) (meth := k0m0) (c := k0c0) (by decide +kernel) rfl rfl rfl (by decide +kernel)
set_option maxRecDepth 65536 in
theorem w_c5 : (Jvm.Cond.code ({ cls := "com/example/cell5/cell5/http/Reply", name := "streamed", desc := "(ILjava/lang/String;JLjava/io/InputStream;)Lcom/example/cell5/cell5/http/Reply;" } : Jvm.MethodName) prog_33_method_5_code (5 : Nat) (Option.some (Jvm.ClassFile.FieldType.object "com/example/cell5/cell5/http/Reply"))).before args0 about1 = true := code_word (m := ⟨9, 2⟩) (meth := k9m2) (c := k9c2) (by decide +kernel) rfl rfl rfl (by decide +kernel)
set_option maxRecDepth 65536 in
theorem w_c6 : (Jvm.Cond.code ({ cls := "com/example/cell5/cell5/http/Reply$Streamed", name := "<init>", desc := "(JLjava/io/InputStream;)V" } : Jvm.MethodName) prog_34_method_1_code (4 : Nat) (Option.none : Option Jvm.ClassFile.FieldType)).before args0 about1 = true := code_word (m := ⟨10, 0⟩) (meth := k10m0) (c := k10c0) (by decide +kernel) rfl rfl rfl (by decide +kernel)
set_option maxRecDepth 65536 in
theorem w_c7 : (Jvm.Cond.code ({ cls := "com/example/cell5/cell5/http/Reply", name := "length", desc := "()J" } : Jvm.MethodName) prog_33_method_6_code (1 : Nat) (Option.some Jvm.ClassFile.FieldType.long)).before args0 about1 = true := code_word (m := ⟨9, 3⟩) (meth := k9m3) (c := k9c3) (by decide +kernel) rfl rfl rfl (by decide +kernel)
set_option maxRecDepth 65536 in
theorem w_c8 : (Jvm.Cond.code ({ cls := "com/example/cell5/cell5/http/Reply$Streamed", name := "length", desc := "()J" } : Jvm.MethodName) prog_34_method_5_code (1 : Nat) (Option.some Jvm.ClassFile.FieldType.long)).before args0 about1 = true := code_word (m := ⟨10, 1⟩) (meth := k10m1) (c := k10c1) (by decide +kernel) rfl rfl rfl (by decide +kernel)
def codes1 : List Jvm.Cond := [Jvm.Cond.code x code maxLocals ret, Jvm.Cond.code ({ cls := "com/example/cell5/cell5/http/Reply", name := "<init>", desc := "(I[BLjava/lang/String;Ljava/lang/String;)V" } : Jvm.MethodName) prog_33_method_1_code (5 : Nat) (Option.none : Option Jvm.ClassFile.FieldType), Jvm.Cond.code ({ cls := "com/example/cell5/cell5/http/Reply", name := "<init>", desc := "(I[BLjava/lang/String;Ljava/lang/String;Lcom/example/cell5/cell5/http/Reply$Streamed;)V" } : Jvm.MethodName) prog_33_method_4_code (6 : Nat) (Option.none : Option Jvm.ClassFile.FieldType), Jvm.Cond.code ({ cls := "java/lang/Record", name := "<init>", desc := "()V" } : Jvm.MethodName) jdk_30_method_1_code (1 : Nat) (Option.none : Option Jvm.ClassFile.FieldType), Jvm.Cond.code ({ cls := "java/lang/Object", name := "<init>", desc := "()V" } : Jvm.MethodName) object_method_1_code (1 : Nat) (Option.none : Option Jvm.ClassFile.FieldType), Jvm.Cond.code ({ cls := "com/example/cell5/cell5/http/Reply", name := "streamed", desc := "(ILjava/lang/String;JLjava/io/InputStream;)Lcom/example/cell5/cell5/http/Reply;" } : Jvm.MethodName) prog_33_method_5_code (5 : Nat) (Option.some (Jvm.ClassFile.FieldType.object "com/example/cell5/cell5/http/Reply")), Jvm.Cond.code ({ cls := "com/example/cell5/cell5/http/Reply$Streamed", name := "<init>", desc := "(JLjava/io/InputStream;)V" } : Jvm.MethodName) prog_34_method_1_code (4 : Nat) (Option.none : Option Jvm.ClassFile.FieldType), Jvm.Cond.code ({ cls := "com/example/cell5/cell5/http/Reply", name := "length", desc := "()J" } : Jvm.MethodName) prog_33_method_6_code (1 : Nat) (Option.some Jvm.ClassFile.FieldType.long), Jvm.Cond.code ({ cls := "com/example/cell5/cell5/http/Reply$Streamed", name := "length", desc := "()J" } : Jvm.MethodName) prog_34_method_5_code (1 : Nat) (Option.some Jvm.ClassFile.FieldType.long)]
set_option maxRecDepth 65536 in
theorem codes_eq : words1.filter isCode = codes1 := rfl
theorem w_codes : ∀ c ∈ words1.filter isCode, c.before args0 about1 = true := by
  rw [codes_eq]
  intro c hc
  simp only [codes1, List.mem_cons, List.not_mem_nil, or_false] at hc
  rcases hc with rfl | rfl | rfl | rfl | rfl | rfl | rfl | rfl | rfl
  · exact w_c0
  · exact w_c1
  · exact w_c2
  · exact w_c3
  · exact w_c4
  · exact w_c5
  · exact w_c6
  · exact w_c7
  · exact w_c8
set_option maxRecDepth 65536 in
theorem w_t1 : (words1.take 24).all (fun c => isCode c || c.before args0 about1) = true := by decide +kernel
set_option maxRecDepth 65536 in
theorem w_t2 : ((words1.drop 24).take 24).all (fun c => isCode c || c.before args0 about1) = true := by decide +kernel
set_option maxRecDepth 65536 in
theorem w_t3 : ((words1.drop 24).drop 24).all (fun c => isCode c || c.before args0 about1) = true := by decide +kernel
theorem w_tables : (allAtoms (Jvm.Cond.code x code maxLocals ret :: tables_1)).before args0 about1 = true := by
  rw [allAtoms_all]
  show words1.all (fun c => c.before args0 about1) = true
  refine all_split ?_ w_codes
  rw [← List.take_append_drop 24 words1, List.all_append, w_t1, ← List.take_append_drop 24 (words1.drop 24), List.all_append, w_t2, w_t3]
  rfl
set_option maxRecDepth 65536 in
theorem w_case : (Jvm.Cond.and given_1 narrow_1).before args0 about1 = true := by decide +kernel
theorem w_applies : (headSpec (Jvm.Cond.code x code maxLocals ret :: tables_1) room_1).applies x e0.platform about1 = true :=
  (Spec.applies_iff w_frames).mpr ⟨w_running, w_runnable, w_alone, w_named, w_hears, w_ripe, w_room, w_tables⟩
theorem atStart : AtStart classFile x code maxLocals ret World_1 tables_1 room_1 Calls_1 rest_1 Pre_1 launch0 p0 e0 about1 theMethod args0 below0 :=
  ⟨lists_1, trivial, launch0.admits_env _ _ _, launch0.least_env, fairChoices_fair.cas, fairChoices_fair.clock, w_frames, w_args, w_heap, w_applies, trivial, trivial, w_case⟩
end start1
theorem witness_1 : WitnessClaimed_1 := ⟨start1.p0, start1.e0, start1.about1, start1.theMethod, start1.args0, start1.below0, start1.atStart⟩
end Jvm.Pilot.@@N@@
