import JvmDerived
import JvmDerived.Pilot.@@N@@Statement
import JvmDerived.Pilot.@@N@@Code
set_option linter.unusedVariables false
set_option linter.unusedSimpArgs false
namespace Jvm.RoadKit
open Sem ClassFile Op Lib Jvm.Stand Jvm.Free Jvm.LawKit
section New
variable {p : Program} {l : Launch} {e : Env} {R : Room} {s : State} {m : MethodId} {args : Array Value} {below : List Frame} {meth : Method} {c : Code} {T : State} {locs : List Loc} {cells slots : Nat}
theorem retI (X : Stand p l e R s m args below meth c T locs cells slots) (hx : p.tables.exec = Jvm.exec) {pc : Nat} {Ls : Array Slot} {z : Int32} {rest : List Value} (hret : meth.sig.returnType = some .int) (hd : decode c.code pc = .ok (.ireturn, 1)) {fs : List Frame}
    (hl : ∀ (f : JFrame) (acts : List Action), f.method = m → f.locked = none → f.entered = [] → (doReturn e (T.setTop f) acts (some (.int z))).1 = T.setFrames fs) : Steps p.tables e below (T.setTop (mkF m pc Ls (.int z :: rest))) (T.setFrames fs) := by
  have hm' : T.vm.method? m = some meth := X.method'
  have hn : narrow .int (.int z) = .int z := rfl
  show Steps p.tables e below (T.setTop { method := m, pc := pc, locals := Ls, stack := _ :: rest, locked := none }) _
  jvm_step X.here [X.here.top, hx, hd, hm', hret, hn]
  first | (intro acts; rw [hl _ acts rfl rfl rfl]) | rw [hl _ _ rfl rfl rfl]
  exact Steps.refl _
theorem retL (X : Stand p l e R s m args below meth c T locs cells slots) (hx : p.tables.exec = Jvm.exec) {pc : Nat} {Ls : Array Slot} {z : Int64} {rest : List Value} (hret : meth.sig.returnType = some .long) (hd : decode c.code pc = .ok (.lreturn, 1)) {fs : List Frame}
    (hl : ∀ (f : JFrame) (acts : List Action), f.method = m → f.locked = none → f.entered = [] → (doReturn e (T.setTop f) acts (some (.long z))).1 = T.setFrames fs) : Steps p.tables e below (T.setTop (mkF m pc Ls (.long z :: rest))) (T.setFrames fs) := by
  have hm' : T.vm.method? m = some meth := X.method'
  have hn : narrow .long (.long z) = .long z := rfl
  show Steps p.tables e below (T.setTop { method := m, pc := pc, locals := Ls, stack := _ :: rest, locked := none }) _
  jvm_step X.here [X.here.top, hx, hd, hm', hret, hn]
  first | (intro acts; rw [hl _ acts rfl rfl rfl]) | rw [hl _ _ rfl rfl rfl]
  exact Steps.refl _
end New
end Jvm.RoadKit
namespace Jvm.Pilot.@@N@@
open Jvm Jvm.ClassFile Sem Op Lib Jvm.Free Jvm.Stand Jvm.LawKit Jvm.RoadKit Bundle Jvm.Pilot.@@N@@.Jvm.D
/-- the run comes from pc, with these locals and this stack, to t -/
abbrev SS (p : Program) (e : Env) (below : List Frame) (m : MethodId) (T : State) (pc : Nat) (ls : Array Slot) (st : List Value) (t : State) : Prop := Steps p.tables e below (T.setTop (mkF m pc ls st)) t
/-- a method that writes nothing and returns an int -/
def QI (r : Int32) (h0 : Heap) (n0 : Nat) (v : Option Value) (h : Heap) (L : List Loc) : Prop := v = some (.int r) ∧ Fr n0 L ∧ h = h0
def QL (r : Int64) (h0 : Heap) (n0 : Nat) (v : Option Value) (h : Heap) (L : List Loc) : Prop := v = some (.long r) ∧ Fr n0 L ∧ h = h0
def QV (h0 : Heap) (n0 : Nat) (v : Option Value) (h : Heap) (L : List Loc) : Prop := v = none ∧ Fr n0 L ∧ h = h0
/-- .. that may load String constants -/
def QC (r : Int32) (W0 : Vm → Heap → Prop) (h0 : Heap) (n0 : Nat) (v : Option Value) (h : Heap) (vm : Vm) (L : List Loc) : Prop := v = some (.int r) ∧ Fr n0 L ∧ Ext h0 h ∧ W0 vm h
def QIS (r : Int32) (h0 : Heap) (n0 : Nat) (v : Option Value) (h : Heap) (L : List Loc) : Prop := v = some (.int r) ∧ Fr n0 L ∧ Ext h0 h
theorem own_ext {a b c : Heap} (h : Ext a b) (k : Ext b c) : Ext a c := ⟨Nat.le_trans h.1 k.1, fun x y q => k.2 _ _ (h.2 _ _ q)⟩
theorem own_extw {a h h' : Heap} {x : Addr} {sl : Nat} {v : Value} (E : Ext a h) (W : Wr h h' x sl v) (q : a.size ≤ x) : Ext a h' := by
  have K := Keep.of_wr W
  refine ⟨Nat.le_trans E.1 K.1, fun y c hc => K.2.1 _ _ (E.2 _ _ hc) fun hm => ?_⟩
  have hl := (Array.getElem?_eq_some_iff.mp hc).1
  rw [List.mem_singleton] at hm
  rw [hm] at hl
  exact absurd hl (Nat.not_lt.mpr q)
def QE (n0 : Nat) (v : Option Value) (h : Heap) (L : List Loc) : Prop := v = some (.int 1) ∧ Fr n0 L
theorem d2_0 : decode jdk_30_method_1_code 0 = .ok (.aload_n 0, 1) := by decide +kernel
theorem d2_1 : decode jdk_30_method_1_code 1 = .ok (.invokespecial 1, 3) := by decide +kernel
theorem d2_4 : decode jdk_30_method_1_code 4 = .ok (.return_, 1) := by decide +kernel
theorem pn_2 : plainName "java/lang/Record" = true := by first | (simp [plainName, overriddenIn]; done) | decide +kernel
theorem ef_2 (m : MethodId) (a1 : Addr) : entryFrame m #[(.ref a1)] 1 = mkF m 0 #[rv a1] [] := by first | (simp [entryFrame, mkF, argsToLocals, Value.category]; done) | rfl
set_option maxRecDepth 65536 in
set_option maxHeartbeats 40000000 in
theorem rm2 (l : Launch) (Z : State) (a0 : Array Value) (hw : ∀ d ∈ tables_1, d.before a0 Z = true) (ws : List Jvm.Cond) (a1 : Addr)  (h0 : Heap) (n0 : Nat) (Z0 : n0 ≤ h0.size)  :
    MetFree l (⟨"java/lang/Record", "<init>", "()V"⟩ : MethodName) (head1 (Jvm.Cond.code (⟨"java/lang/Record", "<init>", "()V"⟩ : MethodName) jdk_30_method_1_code 1 none :: ws) ({ frames := 1, cells := 0, slots := 0, locals := 12 } : Room)) (fun a U => a = #[(.ref a1)] ∧ Z.Warmed39 U.vm ∧ U.heap = h0) (fun _ _ _ _ _ => True) (fun _ U o U' => ∃ v L, o = .returned v ∧ QV h0 n0 v U'.heap L ∧ FrameEnd U o U' L ({ frames := 1, cells := 0, slots := 0, locals := 12 } : Room).cells ({ frames := 1, cells := 0, slots := 0, locals := 12 } : Room).slots) := by
  refine MetFree.of_bodySF (plainFor_of_name pn_2) hisR ?_
  intro p e s m args below meth c s₁ Bd hml0 hP hK
  obtain ⟨rfl, hZ, hh⟩ := hP
  have hx := Bd.exec
  have hby := Bd.bytes
  have hml : c.maxLocals = 1 := hml0
  have hown : s.vm.findClass "java/lang/Record" = some m.cls := findClass_of_methodNamed Bd.named
  have hnm := (name_of_methodNamed Bd.named Bd.method).1
  have X0 : Stand p l e ({ frames := 1, cells := 0, slots := 0, locals := 12 } : Room) s m #[(.ref a1)] below meth c s₁ [] 0 0 := Stand.of_body Bd
  have e0 : s₁.heap = h0 := by rw [← hh, Bd.state]; rfl
  have N0 := Fr.nil n0
  obtain ⟨B, hB, pre0⟩ : ∃ B : State → Prop, (∀ t, B t → Steps p.tables e below (s₁.setTop (entryFrame m #[(.ref a1)] 1)) t) ∧ ∀ t, SS p e below m s₁ 0 #[rv a1] [] t → B t := ⟨_, fun _ q => q, fun t kk => castTop (ef_2 m a1) kk⟩
  have pre1 : ∀ t, SS p e below m s₁ 1 #[rv a1] [(.ref a1)] t → B t := fun t kk => pre0 t (by
    show SS p e below m s₁ 0 #[rv a1] [] _
    refine XS.aloadN X0.here hx rfl (hb hby d2_0) rfl rfl ?_
    show SS p e below m s₁ 1 #[rv a1] [(.ref a1)] _
    exact kk)
  obtain ⟨T2, X2, e2, st2⟩ := initO X0 hx hZ hown (hw _ (List.mem_of_getElem? (i := 15) rfl)) (hw _ (List.mem_of_getElem? (i := 16) rfl)) (hw _ (List.mem_of_getElem? (i := 17) rfl)) e0 (g := (mkF m 1 #[rv a1] [(.ref a1)])) rfl (by rw [hml]; rfl) rfl (hb hby d2_1) (by decide) (W := 0) (by show 2 * 0 + _ ≤ _; exact Nat.le_of_eq rfl) (by decide)
  have pre3 : ∀ t, SS p e below m T2 4 #[rv a1] [] t → B t := fun t kk => pre1 t (by
    refine st2 _ ?_
    show SS p e below m T2 4 #[rv a1] [] _
    exact kk)
  obtain ⟨fs, hr, hrun, hended, hW, hsame⟩ := X2.leave (v := none) (fun _ => rfl)
  refine ⟨_, _, hB _ (pre3 _ ?_), hrun, hended, _, _, rfl, ?_, ⟨_, rfl⟩, hW, hsame.mono (by decide) (by decide)⟩
  · exact X2.returnOut hx Bd.returns (hb hby d2_4) hr
  · exact ⟨rfl, N0, e2⟩
theorem d1_0 : decode prog_32_method_1_code 0 = .ok (.aload_n 0, 1) := by decide +kernel
theorem d1_1 : decode prog_32_method_1_code 1 = .ok (.invokespecial 1, 3) := by decide +kernel
theorem d1_4 : decode prog_32_method_1_code 4 = .ok (.return_, 1) := by decide +kernel
theorem pn_1 : plainName "com/example/hermit_crab/hermitcrab/sim/Topology$Ring" = true := by first | (simp [plainName, overriddenIn]; done) | decide +kernel
theorem pd_0 : parseMethodDescriptor "()V" = some ⟨[], none⟩ := by decide +kernel
theorem ef_1 (m : MethodId) (a1 : Addr) : entryFrame m #[(.ref a1)] 1 = mkF m 0 #[rv a1] [] := by first | (simp [entryFrame, mkF, argsToLocals, Value.category]; done) | rfl
set_option maxRecDepth 65536 in
set_option maxHeartbeats 40000000 in
theorem rm1 (l : Launch) (Z : State) (a0 : Array Value) (hw : ∀ d ∈ tables_1, d.before a0 Z = true) (ws : List Jvm.Cond) (a1 : Addr)  (h0 : Heap) (n0 : Nat) (Z0 : n0 ≤ h0.size)  :
    MetFree l (⟨"com/example/hermit_crab/hermitcrab/sim/Topology$Ring", "<init>", "()V"⟩ : MethodName) (head1 (Jvm.Cond.code (⟨"com/example/hermit_crab/hermitcrab/sim/Topology$Ring", "<init>", "()V"⟩ : MethodName) prog_32_method_1_code 1 none :: ws) ({ frames := 2, cells := 0, slots := 0, locals := 24 } : Room)) (fun a U => a = #[(.ref a1)] ∧ Z.Warmed39 U.vm ∧ U.heap = h0) (fun _ _ _ _ _ => True) (fun _ U o U' => ∃ v L, o = .returned v ∧ QV h0 n0 v U'.heap L ∧ FrameEnd U o U' L ({ frames := 2, cells := 0, slots := 0, locals := 24 } : Room).cells ({ frames := 2, cells := 0, slots := 0, locals := 24 } : Room).slots) := by
  refine MetFree.of_bodySF (plainFor_of_name pn_1) hisR ?_
  intro p e s m args below meth c s₁ Bd hml0 hP hK
  obtain ⟨rfl, hZ, hh⟩ := hP
  have hx := Bd.exec
  have hby := Bd.bytes
  have hml : c.maxLocals = 1 := hml0
  have hown : s.vm.findClass "com/example/hermit_crab/hermitcrab/sim/Topology$Ring" = some m.cls := findClass_of_methodNamed Bd.named
  have hnm := (name_of_methodNamed Bd.named Bd.method).1
  have X0 : Stand p l e ({ frames := 2, cells := 0, slots := 0, locals := 24 } : Room) s m #[(.ref a1)] below meth c s₁ [] 0 0 := Stand.of_body Bd
  have e0 : s₁.heap = h0 := by rw [← hh, Bd.state]; rfl
  have N0 := Fr.nil n0
  obtain ⟨B, hB, pre0⟩ : ∃ B : State → Prop, (∀ t, B t → Steps p.tables e below (s₁.setTop (entryFrame m #[(.ref a1)] 1)) t) ∧ ∀ t, SS p e below m s₁ 0 #[rv a1] [] t → B t := ⟨_, fun _ q => q, fun t kk => castTop (ef_1 m a1) kk⟩
  have pre1 : ∀ t, SS p e below m s₁ 1 #[rv a1] [(.ref a1)] t → B t := fun t kk => pre0 t (by
    show SS p e below m s₁ 0 #[rv a1] [] _
    refine XS.aloadN X0.here hx rfl (hb hby d1_0) rfl rfl ?_
    show SS p e below m s₁ 1 #[rv a1] [(.ref a1)] _
    exact kk)
  obtain ⟨_, _, ⟨T2, L2, k2, n2⟩, -, X2, ⟨Lc2, hQ2, l2, y2, z2⟩, st2⟩ := X0.specialBack hx (y := (⟨"java/lang/Record", "<init>", "()V"⟩ : MethodName)) rfl hown (mvT hZ (hw _ (List.mem_of_getElem? (i := 10) rfl))) (mvT hZ (hw _ (List.mem_of_getElem? (i := 11) rfl))) (mvT hZ (hw _ (List.mem_of_getElem? (i := 14) rfl))) (by decide) (backOf (W := 0) (rm2 l Z a0 hw [] a1 h0 n0 Z0 ) hZ (hw _ (List.mem_of_getElem? (i := 14) rfl)) (hw _ (List.mem_of_getElem? (i := 13) rfl)) (by decide) (by decide)) (g := (mkF m 1 #[rv a1] [(.ref a1)])) rfl (by rw [hml]; rfl) (Steps.refl _) (a := a1) (argsL := []) (rest := []) (lenOf pd_0 rfl) rfl (by show 2 * 0 + _ ≤ _; exact Nat.le_of_eq rfl) (hb hby d1_1) (fun _ _ => ⟨rfl, e0, (by decide : 0 + 0 ≤ _), (by decide : 0 + 0 ≤ _)⟩)
  dsimp only [Pt.U, Pt.locs, Pt.cells, Pt.slots] at X2 l2 y2 z2 st2 hQ2
  subst l2 y2 z2
  obtain ⟨rfl, N2q, e2⟩ := hQ2
  have N2 := Fr.app N0 N2q
  have pre3 : ∀ t, SS p e below m T2 4 #[rv a1] [] t → B t := fun t kk => pre1 t (by
    refine st2.trans ?_
    show SS p e below m T2 4 #[rv a1] [] _
    exact kk)
  obtain ⟨fs, hr, hrun, hended, hW, hsame⟩ := X2.leave (v := none) (fun _ => rfl)
  refine ⟨_, _, hB _ (pre3 _ ?_), hrun, hended, _, _, rfl, ?_, ⟨_, rfl⟩, hW, hsame.mono (by decide) (by decide)⟩
  · exact X2.returnOut hx Bd.returns (hb hby d1_4) hr
  · exact ⟨rfl, N2, e2⟩
theorem d4_0 : decode prog_32_method_2_code 0 = .ok (.iload_n 2, 1) := by decide +kernel
theorem d4_1 : decode prog_32_method_2_code 1 = .ok (.iload_n 1, 1) := by decide +kernel
theorem d4_2 : decode prog_32_method_2_code 2 = .ok (.iconst 1, 1) := by decide +kernel
theorem d4_3 : decode prog_32_method_2_code 3 = .ok (.iadd, 1) := by decide +kernel
theorem d4_4 : decode prog_32_method_2_code 4 = .ok (.iload_n 3, 1) := by decide +kernel
theorem d4_5 : decode prog_32_method_2_code 5 = .ok (.irem, 1) := by decide +kernel
theorem d4_6 : decode prog_32_method_2_code 6 = .ok (.if_icmp .eq 12, 3) := by decide +kernel
theorem d4_9 : decode prog_32_method_2_code 9 = .ok (.iload_n 1, 1) := by decide +kernel
theorem d4_10 : decode prog_32_method_2_code 10 = .ok (.iload_n 2, 1) := by decide +kernel
theorem d4_11 : decode prog_32_method_2_code 11 = .ok (.iconst 1, 1) := by decide +kernel
theorem d4_12 : decode prog_32_method_2_code 12 = .ok (.iadd, 1) := by decide +kernel
theorem d4_13 : decode prog_32_method_2_code 13 = .ok (.iload_n 3, 1) := by decide +kernel
theorem d4_14 : decode prog_32_method_2_code 14 = .ok (.irem, 1) := by decide +kernel
theorem d4_15 : decode prog_32_method_2_code 15 = .ok (.if_icmp .ne 7, 3) := by decide +kernel
theorem d4_18 : decode prog_32_method_2_code 18 = .ok (.iconst 1, 1) := by decide +kernel
theorem d4_19 : decode prog_32_method_2_code 19 = .ok (.goto 4, 3) := by decide +kernel
theorem d4_22 : decode prog_32_method_2_code 22 = .ok (.iconst 0, 1) := by decide +kernel
theorem d4_23 : decode prog_32_method_2_code 23 = .ok (.ireturn, 1) := by decide +kernel
theorem pn_4 : plainName "com/example/hermit_crab/hermitcrab/sim/Topology$Ring" = true := by first | (simp [plainName, overriddenIn]; done) | decide +kernel
theorem ef_4 (m : MethodId) (a1 : Addr) (p2 : Int32) (p3 : Int32) (p4 : Int32) : entryFrame m #[(.ref a1), (.int p2), (.int p3), (.int p4)] 4 = mkF m 0 #[rv a1, iv p2, iv p3, iv p4] [] := by first | (simp [entryFrame, mkF, argsToLocals, Value.category]; done) | rfl
def f4 (p2 : Int32) (p3 : Int32) (p4 : Int32)  : Int32 := (if p3 = ((p2 + (1 : Int32)) % p4) then (1 : Int32) else (if p2 = ((p3 + (1 : Int32)) % p4) then (1 : Int32) else (0 : Int32)))
set_option maxRecDepth 65536 in
set_option maxHeartbeats 40000000 in
theorem rm4 (l : Launch) (Z : State) (a0 : Array Value) (hw : ∀ d ∈ tables_1, d.before a0 Z = true) (ws : List Jvm.Cond) (a1 : Addr) (p2 : Int32) (p3 : Int32) (p4 : Int32)  (h0 : Heap) (n0 : Nat) (Z0 : n0 ≤ h0.size) (hnz : p4 ≠ (0 : Int32)) :
    MetFree l (⟨"com/example/hermit_crab/hermitcrab/sim/Topology$Ring", "links", "(III)Z"⟩ : MethodName) (head1 (Jvm.Cond.code (⟨"com/example/hermit_crab/hermitcrab/sim/Topology$Ring", "links", "(III)Z"⟩ : MethodName) prog_32_method_2_code 4 (some .boolean) :: ws) ({ frames := 0, cells := 0, slots := 0, locals := 0 } : Room)) (fun a U => a = #[(.ref a1), (.int p2), (.int p3), (.int p4)] ∧ Z.Warmed39 U.vm ∧ U.heap = h0) (fun _ _ _ _ _ => True) (fun _ U o U' => ∃ v L, o = .returned v ∧ QI (f4 p2 p3 p4) h0 n0 v U'.heap L ∧ FrameEnd U o U' L ({ frames := 0, cells := 0, slots := 0, locals := 0 } : Room).cells ({ frames := 0, cells := 0, slots := 0, locals := 0 } : Room).slots) := by
  refine MetFree.of_bodySF (plainFor_of_name pn_4) hisR ?_
  intro p e s m args below meth c s₁ Bd hml0 hP hK
  obtain ⟨rfl, hZ, hh⟩ := hP
  have hx := Bd.exec
  have hby := Bd.bytes
  have hml : c.maxLocals = 4 := hml0
  have hown : s.vm.findClass "com/example/hermit_crab/hermitcrab/sim/Topology$Ring" = some m.cls := findClass_of_methodNamed Bd.named
  have hnm := (name_of_methodNamed Bd.named Bd.method).1
  have X0 : Stand p l e ({ frames := 0, cells := 0, slots := 0, locals := 0 } : Room) s m #[(.ref a1), (.int p2), (.int p3), (.int p4)] below meth c s₁ [] 0 0 := Stand.of_body Bd
  have e0 : s₁.heap = h0 := by rw [← hh, Bd.state]; rfl
  have N0 := Fr.nil n0
  obtain ⟨B, hB, pre0⟩ : ∃ B : State → Prop, (∀ t, B t → Steps p.tables e below (s₁.setTop (entryFrame m #[(.ref a1), (.int p2), (.int p3), (.int p4)] 4)) t) ∧ ∀ t, SS p e below m s₁ 0 #[rv a1, iv p2, iv p3, iv p4] [] t → B t := ⟨_, fun _ q => q, fun t kk => castTop (ef_4 m a1 p2 p3 p4) kk⟩
  have pre1 : ∀ t, SS p e below m s₁ 6 #[rv a1, iv p2, iv p3, iv p4] [(.int ((p2 + (1 : Int32)) % p4)), (.int p3)] t → B t := fun t kk => pre0 t (by
    show SS p e below m s₁ 0 #[rv a1, iv p2, iv p3, iv p4] [] _
    refine XS.iloadN X0.here hx rfl (hb hby d4_0) rfl ?_
    show SS p e below m s₁ 1 #[rv a1, iv p2, iv p3, iv p4] [(.int p3)] _
    refine XS.iloadN X0.here hx rfl (hb hby d4_1) rfl ?_
    show SS p e below m s₁ 2 #[rv a1, iv p2, iv p3, iv p4] [(.int p2), (.int p3)] _
    refine XS.iconst X0.here hx rfl (hb hby d4_2) ?_
    show SS p e below m s₁ 3 #[rv a1, iv p2, iv p3, iv p4] [(.int (1 : Int32)), (.int p2), (.int p3)] _
    refine XS.iadd X0.here hx rfl (hb hby d4_3) rfl ?_
    show SS p e below m s₁ 4 #[rv a1, iv p2, iv p3, iv p4] [(.int (p2 + (1 : Int32))), (.int p3)] _
    refine XS.iloadN X0.here hx rfl (hb hby d4_4) rfl ?_
    show SS p e below m s₁ 5 #[rv a1, iv p2, iv p3, iv p4] [(.int p4), (.int (p2 + (1 : Int32))), (.int p3)] _
    refine iremM (g := (mkF m 5 #[rv a1, iv p2, iv p3, iv p4] [(.int p4), (.int (p2 + (1 : Int32))), (.int p3)])) X0 hx rfl (hb hby d4_5) rfl hnz ?_
    show SS p e below m s₁ 6 #[rv a1, iv p2, iv p3, iv p4] [(.int ((p2 + (1 : Int32)) % p4)), (.int p3)] _
    exact kk)
  by_cases hc2 : p3 = ((p2 + (1 : Int32)) % p4)
  · have pre3 : ∀ t, SS p e below m s₁ 23 #[rv a1, iv p2, iv p3, iv p4] [(.int (1 : Int32))] t → B t := fun t kk => pre1 t (by
      refine XS.icmpYes X0.here hx rfl (pc0 := 6) (pc' := 18) rfl (hb hby d4_6) rfl (teq hc2).1 (by decide) (by decide) ?_
      show SS p e below m s₁ 18 #[rv a1, iv p2, iv p3, iv p4] [] _
      refine XS.iconst X0.here hx rfl (hb hby d4_18) ?_
      show SS p e below m s₁ 19 #[rv a1, iv p2, iv p3, iv p4] [(.int (1 : Int32))] _
      refine XS.goto X0.here hx rfl (pc0 := 19) (pc' := 23) rfl (hb hby d4_19) (by decide) (by decide) ?_
      show SS p e below m s₁ 23 #[rv a1, iv p2, iv p3, iv p4] [(.int (1 : Int32))] _
      exact kk)
    obtain ⟨fs, hr, hrun, hended, hW, hsame⟩ := X0.leave (v := some (.int (1 : Int32))) (fun h => by rw [Bd.returns] at h; cases h)
    refine ⟨_, _, hB _ (pre3 _ ?_), hrun, hended, _, _, rfl, ?_, ⟨_, rfl⟩, hW, hsame.mono (by decide) (by decide)⟩
    · exact retN X0 hx (t := .boolean) Bd.returns (by simp) (hb hby d4_23) hr
    · exact ⟨by show _ = some (Value.int (f4 p2 p3 p4)); rw [f4, if_pos hc2], N0, e0⟩
  · have pre4 : ∀ t, SS p e below m s₁ 15 #[rv a1, iv p2, iv p3, iv p4] [(.int ((p3 + (1 : Int32)) % p4)), (.int p2)] t → B t := fun t kk => pre1 t (by
      refine XS.icmpNo X0.here hx rfl (hb hby d4_6) rfl (feq hc2).1 ?_
      show SS p e below m s₁ 9 #[rv a1, iv p2, iv p3, iv p4] [] _
      refine XS.iloadN X0.here hx rfl (hb hby d4_9) rfl ?_
      show SS p e below m s₁ 10 #[rv a1, iv p2, iv p3, iv p4] [(.int p2)] _
      refine XS.iloadN X0.here hx rfl (hb hby d4_10) rfl ?_
      show SS p e below m s₁ 11 #[rv a1, iv p2, iv p3, iv p4] [(.int p3), (.int p2)] _
      refine XS.iconst X0.here hx rfl (hb hby d4_11) ?_
      show SS p e below m s₁ 12 #[rv a1, iv p2, iv p3, iv p4] [(.int (1 : Int32)), (.int p3), (.int p2)] _
      refine XS.iadd X0.here hx rfl (hb hby d4_12) rfl ?_
      show SS p e below m s₁ 13 #[rv a1, iv p2, iv p3, iv p4] [(.int (p3 + (1 : Int32))), (.int p2)] _
      refine XS.iloadN X0.here hx rfl (hb hby d4_13) rfl ?_
      show SS p e below m s₁ 14 #[rv a1, iv p2, iv p3, iv p4] [(.int p4), (.int (p3 + (1 : Int32))), (.int p2)] _
      refine iremM (g := (mkF m 14 #[rv a1, iv p2, iv p3, iv p4] [(.int p4), (.int (p3 + (1 : Int32))), (.int p2)])) X0 hx rfl (hb hby d4_14) rfl hnz ?_
      show SS p e below m s₁ 15 #[rv a1, iv p2, iv p3, iv p4] [(.int ((p3 + (1 : Int32)) % p4)), (.int p2)] _
      exact kk)
    by_cases hc5 : p2 = ((p3 + (1 : Int32)) % p4)
    · have pre6 : ∀ t, SS p e below m s₁ 23 #[rv a1, iv p2, iv p3, iv p4] [(.int (1 : Int32))] t → B t := fun t kk => pre4 t (by
        refine XS.icmpNo X0.here hx rfl (hb hby d4_15) rfl (teq hc5).2 ?_
        show SS p e below m s₁ 18 #[rv a1, iv p2, iv p3, iv p4] [] _
        refine XS.iconst X0.here hx rfl (hb hby d4_18) ?_
        show SS p e below m s₁ 19 #[rv a1, iv p2, iv p3, iv p4] [(.int (1 : Int32))] _
        refine XS.goto X0.here hx rfl (pc0 := 19) (pc' := 23) rfl (hb hby d4_19) (by decide) (by decide) ?_
        show SS p e below m s₁ 23 #[rv a1, iv p2, iv p3, iv p4] [(.int (1 : Int32))] _
        exact kk)
      obtain ⟨fs, hr, hrun, hended, hW, hsame⟩ := X0.leave (v := some (.int (1 : Int32))) (fun h => by rw [Bd.returns] at h; cases h)
      refine ⟨_, _, hB _ (pre6 _ ?_), hrun, hended, _, _, rfl, ?_, ⟨_, rfl⟩, hW, hsame.mono (by decide) (by decide)⟩
      · exact retN X0 hx (t := .boolean) Bd.returns (by simp) (hb hby d4_23) hr
      · exact ⟨by show _ = some (Value.int (f4 p2 p3 p4)); rw [f4, if_neg hc2, if_pos hc5], N0, e0⟩
    · have pre7 : ∀ t, SS p e below m s₁ 23 #[rv a1, iv p2, iv p3, iv p4] [(.int (0 : Int32))] t → B t := fun t kk => pre4 t (by
        refine XS.icmpYes X0.here hx rfl (pc0 := 15) (pc' := 22) rfl (hb hby d4_15) rfl (feq hc5).2 (by decide) (by decide) ?_
        show SS p e below m s₁ 22 #[rv a1, iv p2, iv p3, iv p4] [] _
        refine XS.iconst X0.here hx rfl (hb hby d4_22) ?_
        show SS p e below m s₁ 23 #[rv a1, iv p2, iv p3, iv p4] [(.int (0 : Int32))] _
        exact kk)
      obtain ⟨fs, hr, hrun, hended, hW, hsame⟩ := X0.leave (v := some (.int (0 : Int32))) (fun h => by rw [Bd.returns] at h; cases h)
      refine ⟨_, _, hB _ (pre7 _ ?_), hrun, hended, _, _, rfl, ?_, ⟨_, rfl⟩, hW, hsame.mono (by decide) (by decide)⟩
      · exact retN X0 hx (t := .boolean) Bd.returns (by simp) (hb hby d4_23) hr
      · exact ⟨by show _ = some (Value.int (f4 p2 p3 p4)); rw [f4, if_neg hc2, if_neg hc5], N0, e0⟩
theorem own_sites (s z : Int32) (g : z = (2 : Int32) + ((s &&& (2147483647 : Int32)) % (2147483646 : Int32))) : 2 ≤ z.toInt := by
  have m : (s &&& (2147483647 : Int32)).toInt = s.toInt % 2147483648 := c_mask s 2147483647 31 (by decide) (by decide)
  have r := (c_irem (s &&& (2147483647 : Int32)) (2147483646 : Int32) 2147483646 (by decide)).1 (by omega)
  have a := c_iadd (2 : Int32) ((s &&& (2147483647 : Int32)) % (2147483646 : Int32))
  have L2 : (2 : Int32).toInt = 2 := by decide
  have q := rng32 z
  subst g
  omega
theorem own_in (t z v : Int32) (h : 2 ≤ z.toInt) (g : v = (t &&& (2147483647 : Int32)) % z) : 0 ≤ v.toInt ∧ v.toInt < z.toInt := by
  have m : (t &&& (2147483647 : Int32)).toInt = t.toInt % 2147483648 := c_mask t 2147483647 31 (by decide) (by decide)
  have r := (c_iremV (t &&& (2147483647 : Int32)) z).1 (by omega) (by omega)
  subst g
  omega
theorem own_t5 (t : Int32) : 0 ≤ ((t &&& (2147483647 : Int32)) % (5 : Int32)).toInt ∧ ((t &&& (2147483647 : Int32)) % (5 : Int32)).toInt < 5 := by
  have m : (t &&& (2147483647 : Int32)).toInt = t.toInt % 2147483648 := c_mask t 2147483647 31 (by decide) (by decide)
  have r := (c_irem (t &&& (2147483647 : Int32)) (5 : Int32) 5 (by decide)).1 (by omega)
  omega
theorem own_links (a b z : Int32) (hz : 2 ≤ z.toInt) (ha : 0 ≤ a.toInt ∧ a.toInt < z.toInt) (hb : 0 ≤ b.toInt ∧ b.toInt < z.toInt) :
    f4 a b z = if (b.toInt - a.toInt = 1 ∨ b.toInt - a.toInt = -1 ∨ b.toInt - a.toInt = z.toInt - 1 ∨ b.toInt - a.toInt = 1 - z.toInt) then 1 else 0 := by
  have r := rng32 z
  have L1 : (1 : Int32).toInt = 1 := by decide
  have a1 := c_iadd a (1 : Int32)
  have b1 := c_iadd b (1 : Int32)
  have ra := rng32 (a + 1)
  have rb := rng32 (b + 1)
  have ea : (a + 1).toInt = a.toInt + 1 := by omega
  have eb : (b + 1).toInt = b.toInt + 1 := by omega
  have ma := (c_iremV (a + 1) z).1 (by omega) (by omega)
  have mb := (c_iremV (b + 1) z).1 (by omega) (by omega)
  unfold f4
  simp only [← Int32.toInt_inj]
  repeat' split
  all_goals first | rfl | (exfalso; omega)
theorem pn_0 : plainName "com/example/hermit_crab/hermitcrab/sim/RingLinksPinLaw" = true := by first | (simp [plainName, overriddenIn]; done) | decide +kernel
theorem pd_1 : parseMethodDescriptor "(III)Z" = some ⟨[.int, .int, .int], some .boolean⟩ := by decide +kernel
theorem ef_0 (m : MethodId) (p1 : Int32) (p2 : Int32) (p3 : Int32) (p4 : Int32) : entryFrame m #[(.int p1), (.int p2), (.int p3), (.int p4)] maxLocals = mkF m 0 #[iv p1, iv p2, iv p3, iv p4, .unset, .unset, .unset, .unset, .unset, .unset, .unset, .unset, .unset] [] := by first | (simp [entryFrame, mkF, argsToLocals, Value.category, maxLocals]; done) | rfl
set_option maxRecDepth 65536 in
set_option maxHeartbeats 40000000 in
theorem rm0 (l : Launch) (Z : State) (a0 : Array Value) (hw : ∀ d ∈ tables_1, d.before a0 Z = true) (ws : List Jvm.Cond) (p1 : Int32) (p2 : Int32) (p3 : Int32) (p4 : Int32)  (h0 : Heap) (n0 : Nat) (Z0 : n0 ≤ h0.size)  :
    MetFree l x (head1 (Jvm.Cond.code x code maxLocals ret :: ws) room_1) (fun a U => a = #[(.int p1), (.int p2), (.int p3), (.int p4)] ∧ Z.Warmed39 U.vm ∧ U.heap = h0) (fun _ _ _ _ _ => True) (fun _ U o U' => ∃ v L, o = .returned v ∧ QE n0 v U'.heap L ∧ FrameEnd U o U' L room_1.cells room_1.slots) := by
  refine MetFree.of_bodySF (plainFor_of_name pn_0) hisR ?_
  intro p e s m args below meth c s₁ Bd hml0 hP hK
  obtain ⟨rfl, hZ, hh⟩ := hP
  have hx := Bd.exec
  have hby := Bd.bytes
  have hml : c.maxLocals = 13 := hml0
  have hown : s.vm.findClass "com/example/hermit_crab/hermitcrab/sim/RingLinksPinLaw" = some m.cls := findClass_of_methodNamed Bd.named
  have hnm := (name_of_methodNamed Bd.named Bd.method).1
  have X0 : Stand p l e room_1 s m #[(.int p1), (.int p2), (.int p3), (.int p4)] below meth c s₁ [] 0 0 := Stand.of_body Bd
  have e0 : s₁.heap = h0 := by rw [← hh, Bd.state]; rfl
  have N0 := Fr.nil n0
  obtain ⟨B, hB, pre0⟩ : ∃ B : State → Prop, (∀ t, B t → Steps p.tables e below (s₁.setTop (entryFrame m #[(.int p1), (.int p2), (.int p3), (.int p4)] maxLocals)) t) ∧ ∀ t, SS p e below m s₁ 0 #[iv p1, iv p2, iv p3, iv p4, .unset, .unset, .unset, .unset, .unset, .unset, .unset, .unset, .unset] [] t → B t := ⟨_, fun _ q => q, fun t kk => castTop (ef_0 m p1 p2 p3 p4) kk⟩
  have pre1 : ∀ t, SS p e below m s₁ 9 #[iv p1, iv p2, iv p3, iv p4, .unset, .unset, .unset, .unset, .unset, .unset, .unset, .unset, .unset] [(.int ((2 : Int32) + ((p1 &&& (2147483647 : Int32)) % (2147483646 : Int32))))] t → B t := fun t kk => pre0 t (by
    show SS p e below m s₁ 0 #[iv p1, iv p2, iv p3, iv p4, .unset, .unset, .unset, .unset, .unset, .unset, .unset, .unset, .unset] [] _
    refine XS.iconst X0.here hx rfl (hb hby at_0) ?_
    show SS p e below m s₁ 1 #[iv p1, iv p2, iv p3, iv p4, .unset, .unset, .unset, .unset, .unset, .unset, .unset, .unset, .unset] [(.int (2 : Int32))] _
    refine XS.iloadN X0.here hx rfl (hb hby at_1) rfl ?_
    show SS p e below m s₁ 2 #[iv p1, iv p2, iv p3, iv p4, .unset, .unset, .unset, .unset, .unset, .unset, .unset, .unset, .unset] [(.int p1), (.int (2 : Int32))] _
    refine X0.ldcInt hx hown (mvT hZ (hw _ (List.mem_of_getElem? (i := 0) rfl))) (g := (mkF m 2 #[iv p1, iv p2, iv p3, iv p4, .unset, .unset, .unset, .unset, .unset, .unset, .unset, .unset, .unset] [(.int p1), (.int (2 : Int32))])) rfl (hb hby at_2) _ ?_
    show SS p e below m s₁ 4 #[iv p1, iv p2, iv p3, iv p4, .unset, .unset, .unset, .unset, .unset, .unset, .unset, .unset, .unset] [(.int (2147483647 : Int32)), (.int p1), (.int (2 : Int32))] _
    refine XS.iand X0.here hx rfl (hb hby at_4) rfl ?_
    show SS p e below m s₁ 5 #[iv p1, iv p2, iv p3, iv p4, .unset, .unset, .unset, .unset, .unset, .unset, .unset, .unset, .unset] [(.int (p1 &&& (2147483647 : Int32))), (.int (2 : Int32))] _
    refine X0.ldcInt hx hown (mvT hZ (hw _ (List.mem_of_getElem? (i := 1) rfl))) (g := (mkF m 5 #[iv p1, iv p2, iv p3, iv p4, .unset, .unset, .unset, .unset, .unset, .unset, .unset, .unset, .unset] [(.int (p1 &&& (2147483647 : Int32))), (.int (2 : Int32))])) rfl (hb hby at_5) _ ?_
    show SS p e below m s₁ 7 #[iv p1, iv p2, iv p3, iv p4, .unset, .unset, .unset, .unset, .unset, .unset, .unset, .unset, .unset] [(.int (2147483646 : Int32)), (.int (p1 &&& (2147483647 : Int32))), (.int (2 : Int32))] _
    refine iremM (g := (mkF m 7 #[iv p1, iv p2, iv p3, iv p4, .unset, .unset, .unset, .unset, .unset, .unset, .unset, .unset, .unset] [(.int (2147483646 : Int32)), (.int (p1 &&& (2147483647 : Int32))), (.int (2 : Int32))])) X0 hx rfl (hb hby at_7) rfl (by decide) ?_
    show SS p e below m s₁ 8 #[iv p1, iv p2, iv p3, iv p4, .unset, .unset, .unset, .unset, .unset, .unset, .unset, .unset, .unset] [(.int ((p1 &&& (2147483647 : Int32)) % (2147483646 : Int32))), (.int (2 : Int32))] _
    refine XS.iadd X0.here hx rfl (hb hby at_8) rfl ?_
    show SS p e below m s₁ 9 #[iv p1, iv p2, iv p3, iv p4, .unset, .unset, .unset, .unset, .unset, .unset, .unset, .unset, .unset] [(.int ((2 : Int32) + ((p1 &&& (2147483647 : Int32)) % (2147483646 : Int32))))] _
    exact kk)
  obtain ⟨zs, g_zs⟩ : ∃ z, z = ((2 : Int32) + ((p1 &&& (2147483647 : Int32)) % (2147483646 : Int32))) := ⟨_, rfl⟩
  rw [← g_zs] at pre1
  have hz : 2 ≤ zs.toInt := own_sites _ _ g_zs
  have hnz0 : zs ≠ (0 : Int32) := fun q => by rw [q] at hz; exact absurd hz (by decide)
  have pre2 : ∀ t, SS p e below m s₁ 18 #[iv p1, iv p2, iv p3, iv p4, iv zs, .unset, .unset, .unset, .unset, .unset, .unset, .unset, .unset] [(.int ((p2 &&& (2147483647 : Int32)) % zs))] t → B t := fun t kk => pre1 t (by
    refine XS.istore X0.here hx rfl (hb hby at_9) rfl (l' := #[iv p1, iv p2, iv p3, iv p4, iv zs, .unset, .unset, .unset, .unset, .unset, .unset, .unset, .unset]) rfl ?_
    show SS p e below m s₁ 11 #[iv p1, iv p2, iv p3, iv p4, iv zs, .unset, .unset, .unset, .unset, .unset, .unset, .unset, .unset] [] _
    refine XS.iloadN X0.here hx rfl (hb hby at_11) rfl ?_
    show SS p e below m s₁ 12 #[iv p1, iv p2, iv p3, iv p4, iv zs, .unset, .unset, .unset, .unset, .unset, .unset, .unset, .unset] [(.int p2)] _
    refine X0.ldcInt hx hown (mvT hZ (hw _ (List.mem_of_getElem? (i := 0) rfl))) (g := (mkF m 12 #[iv p1, iv p2, iv p3, iv p4, iv zs, .unset, .unset, .unset, .unset, .unset, .unset, .unset, .unset] [(.int p2)])) rfl (hb hby at_12) _ ?_
    show SS p e below m s₁ 14 #[iv p1, iv p2, iv p3, iv p4, iv zs, .unset, .unset, .unset, .unset, .unset, .unset, .unset, .unset] [(.int (2147483647 : Int32)), (.int p2)] _
    refine XS.iand X0.here hx rfl (hb hby at_14) rfl ?_
    show SS p e below m s₁ 15 #[iv p1, iv p2, iv p3, iv p4, iv zs, .unset, .unset, .unset, .unset, .unset, .unset, .unset, .unset] [(.int (p2 &&& (2147483647 : Int32)))] _
    refine XS.iload X0.here hx rfl (hb hby at_15) rfl ?_
    show SS p e below m s₁ 17 #[iv p1, iv p2, iv p3, iv p4, iv zs, .unset, .unset, .unset, .unset, .unset, .unset, .unset, .unset] [(.int zs), (.int (p2 &&& (2147483647 : Int32)))] _
    refine iremM (g := (mkF m 17 #[iv p1, iv p2, iv p3, iv p4, iv zs, .unset, .unset, .unset, .unset, .unset, .unset, .unset, .unset] [(.int zs), (.int (p2 &&& (2147483647 : Int32)))])) X0 hx rfl (hb hby at_17) rfl hnz0 ?_
    show SS p e below m s₁ 18 #[iv p1, iv p2, iv p3, iv p4, iv zs, .unset, .unset, .unset, .unset, .unset, .unset, .unset, .unset] [(.int ((p2 &&& (2147483647 : Int32)) % zs))] _
    exact kk)
  obtain ⟨fr, g_fr⟩ : ∃ z, z = ((p2 &&& (2147483647 : Int32)) % zs) := ⟨_, rfl⟩
  rw [← g_fr] at pre2
  have hfr : 0 ≤ fr.toInt ∧ fr.toInt < zs.toInt := own_in _ _ _ hz g_fr
  have pre3 : ∀ t, SS p e below m s₁ 23 #[iv p1, iv p2, iv p3, iv p4, iv zs, iv fr, .unset, .unset, .unset, .unset, .unset, .unset, .unset] [(.int (p4 &&& (1 : Int32)))] t → B t := fun t kk => pre2 t (by
    refine XS.istore X0.here hx rfl (hb hby at_18) rfl (l' := #[iv p1, iv p2, iv p3, iv p4, iv zs, iv fr, .unset, .unset, .unset, .unset, .unset, .unset, .unset]) rfl ?_
    show SS p e below m s₁ 20 #[iv p1, iv p2, iv p3, iv p4, iv zs, iv fr, .unset, .unset, .unset, .unset, .unset, .unset, .unset] [] _
    refine XS.iloadN X0.here hx rfl (hb hby at_20) rfl ?_
    show SS p e below m s₁ 21 #[iv p1, iv p2, iv p3, iv p4, iv zs, iv fr, .unset, .unset, .unset, .unset, .unset, .unset, .unset] [(.int p4)] _
    refine XS.iconst X0.here hx rfl (hb hby at_21) ?_
    show SS p e below m s₁ 22 #[iv p1, iv p2, iv p3, iv p4, iv zs, iv fr, .unset, .unset, .unset, .unset, .unset, .unset, .unset] [(.int (1 : Int32)), (.int p4)] _
    refine XS.iand X0.here hx rfl (hb hby at_22) rfl ?_
    show SS p e below m s₁ 23 #[iv p1, iv p2, iv p3, iv p4, iv zs, iv fr, .unset, .unset, .unset, .unset, .unset, .unset, .unset] [(.int (p4 &&& (1 : Int32)))] _
    exact kk)
  by_cases hc4 : (p4 &&& (1 : Int32)) = (0 : Int32)
  · have pre5 : ∀ t, SS p e below m s₁ 90 #[iv p1, iv p2, iv p3, iv p4, iv zs, iv fr, .unset, .unset, .unset, .unset, .unset, .unset, .unset] [(.int ((p3 &&& (2147483647 : Int32)) % zs))] t → B t := fun t kk => pre3 t (by
      refine XS.ifYes X0.here hx rfl (pc0 := 23) (pc' := 83) rfl (hb hby at_23) rfl ((if0 _ _).trans (teq hc4).1) (by decide) (by decide) ?_
      show SS p e below m s₁ 83 #[iv p1, iv p2, iv p3, iv p4, iv zs, iv fr, .unset, .unset, .unset, .unset, .unset, .unset, .unset] [] _
      refine XS.iloadN X0.here hx rfl (hb hby at_83) rfl ?_
      show SS p e below m s₁ 84 #[iv p1, iv p2, iv p3, iv p4, iv zs, iv fr, .unset, .unset, .unset, .unset, .unset, .unset, .unset] [(.int p3)] _
      refine X0.ldcInt hx hown (mvT hZ (hw _ (List.mem_of_getElem? (i := 0) rfl))) (g := (mkF m 84 #[iv p1, iv p2, iv p3, iv p4, iv zs, iv fr, .unset, .unset, .unset, .unset, .unset, .unset, .unset] [(.int p3)])) rfl (hb hby at_84) _ ?_
      show SS p e below m s₁ 86 #[iv p1, iv p2, iv p3, iv p4, iv zs, iv fr, .unset, .unset, .unset, .unset, .unset, .unset, .unset] [(.int (2147483647 : Int32)), (.int p3)] _
      refine XS.iand X0.here hx rfl (hb hby at_86) rfl ?_
      show SS p e below m s₁ 87 #[iv p1, iv p2, iv p3, iv p4, iv zs, iv fr, .unset, .unset, .unset, .unset, .unset, .unset, .unset] [(.int (p3 &&& (2147483647 : Int32)))] _
      refine XS.iload X0.here hx rfl (hb hby at_87) rfl ?_
      show SS p e below m s₁ 89 #[iv p1, iv p2, iv p3, iv p4, iv zs, iv fr, .unset, .unset, .unset, .unset, .unset, .unset, .unset] [(.int zs), (.int (p3 &&& (2147483647 : Int32)))] _
      refine iremM (g := (mkF m 89 #[iv p1, iv p2, iv p3, iv p4, iv zs, iv fr, .unset, .unset, .unset, .unset, .unset, .unset, .unset] [(.int zs), (.int (p3 &&& (2147483647 : Int32)))])) X0 hx rfl (hb hby at_89) rfl hnz0 ?_
      show SS p e below m s₁ 90 #[iv p1, iv p2, iv p3, iv p4, iv zs, iv fr, .unset, .unset, .unset, .unset, .unset, .unset, .unset] [(.int ((p3 &&& (2147483647 : Int32)) % zs))] _
      exact kk)
    obtain ⟨to, g_to⟩ : ∃ z, z = ((p3 &&& (2147483647 : Int32)) % zs) := ⟨_, rfl⟩
    rw [← g_to] at pre5
    have hto : 0 ≤ to.toInt ∧ to.toInt < zs.toInt := own_in _ _ _ hz g_to
    have pre6 : ∀ t, SS p e below m s₁ 99 #[iv p1, iv p2, iv p3, iv p4, iv zs, iv fr, iv to, .unset, .unset, .unset, .unset, .unset, .unset] [(.long ((to.toInt64) - (fr.toInt64)))] t → B t := fun t kk => pre5 t (by
      refine XS.istore X0.here hx rfl (hb hby at_90) rfl (l' := #[iv p1, iv p2, iv p3, iv p4, iv zs, iv fr, iv to, .unset, .unset, .unset, .unset, .unset, .unset]) rfl ?_
      show SS p e below m s₁ 92 #[iv p1, iv p2, iv p3, iv p4, iv zs, iv fr, iv to, .unset, .unset, .unset, .unset, .unset, .unset] [] _
      refine XS.iload X0.here hx rfl (hb hby at_92) rfl ?_
      show SS p e below m s₁ 94 #[iv p1, iv p2, iv p3, iv p4, iv zs, iv fr, iv to, .unset, .unset, .unset, .unset, .unset, .unset] [(.int to)] _
      refine XS.i2l X0.here hx rfl (hb hby at_94) rfl ?_
      show SS p e below m s₁ 95 #[iv p1, iv p2, iv p3, iv p4, iv zs, iv fr, iv to, .unset, .unset, .unset, .unset, .unset, .unset] [(.long (to.toInt64))] _
      refine XS.iload X0.here hx rfl (hb hby at_95) rfl ?_
      show SS p e below m s₁ 97 #[iv p1, iv p2, iv p3, iv p4, iv zs, iv fr, iv to, .unset, .unset, .unset, .unset, .unset, .unset] [(.int fr), (.long (to.toInt64))] _
      refine XS.i2l X0.here hx rfl (hb hby at_97) rfl ?_
      show SS p e below m s₁ 98 #[iv p1, iv p2, iv p3, iv p4, iv zs, iv fr, iv to, .unset, .unset, .unset, .unset, .unset, .unset] [(.long (fr.toInt64)), (.long (to.toInt64))] _
      refine XS.lsub X0.here hx rfl (hb hby at_98) rfl ?_
      show SS p e below m s₁ 99 #[iv p1, iv p2, iv p3, iv p4, iv zs, iv fr, iv to, .unset, .unset, .unset, .unset, .unset, .unset] [(.long ((to.toInt64) - (fr.toInt64)))] _
      exact kk)
    obtain ⟨dd, g_dd⟩ : ∃ z, z = ((to.toInt64) - (fr.toInt64)) := ⟨_, rfl⟩
    rw [← g_dd] at pre6
    have hdd : dd.toInt = to.toInt - fr.toInt := by
      have a1 := c_lsub (to.toInt64) (fr.toInt64)
      rw [c_i2l, c_i2l, ← g_dd] at a1
      have r := rng64 dd
      have r2 := rng32 zs
      omega
    have pre7 : ∀ t, SS p e below m s₁ 106 #[iv p1, iv p2, iv p3, iv p4, iv zs, iv fr, iv to, .val (.long dd), .second, .unset, .unset, .unset, .unset] [(.long ((zs.toInt64) - (1 : Int64)))] t → B t := fun t kk => pre6 t (by
      refine XS.lstore X0.here hx rfl (hb hby at_99) rfl (l' := #[iv p1, iv p2, iv p3, iv p4, iv zs, iv fr, iv to, .val (.long dd), .second, .unset, .unset, .unset, .unset]) rfl ?_
      show SS p e below m s₁ 101 #[iv p1, iv p2, iv p3, iv p4, iv zs, iv fr, iv to, .val (.long dd), .second, .unset, .unset, .unset, .unset] [] _
      refine XS.iload X0.here hx rfl (hb hby at_101) rfl ?_
      show SS p e below m s₁ 103 #[iv p1, iv p2, iv p3, iv p4, iv zs, iv fr, iv to, .val (.long dd), .second, .unset, .unset, .unset, .unset] [(.int zs)] _
      refine XS.i2l X0.here hx rfl (hb hby at_103) rfl ?_
      show SS p e below m s₁ 104 #[iv p1, iv p2, iv p3, iv p4, iv zs, iv fr, iv to, .val (.long dd), .second, .unset, .unset, .unset, .unset] [(.long (zs.toInt64))] _
      refine XS.lconst X0.here hx rfl (hb hby at_104) ?_
      show SS p e below m s₁ 105 #[iv p1, iv p2, iv p3, iv p4, iv zs, iv fr, iv to, .val (.long dd), .second, .unset, .unset, .unset, .unset] [(.long (1 : Int64)), (.long (zs.toInt64))] _
      refine XS.lsub X0.here hx rfl (hb hby at_105) rfl ?_
      show SS p e below m s₁ 106 #[iv p1, iv p2, iv p3, iv p4, iv zs, iv fr, iv to, .val (.long dd), .second, .unset, .unset, .unset, .unset] [(.long ((zs.toInt64) - (1 : Int64)))] _
      exact kk)
    obtain ⟨la, g_la⟩ : ∃ z, z = ((zs.toInt64) - (1 : Int64)) := ⟨_, rfl⟩
    rw [← g_la] at pre7
    have hla : la.toInt = zs.toInt - 1 ∧ (-la).toInt = 1 - zs.toInt := by
      have a1 := c_lsub (zs.toInt64) (1 : Int64)
      have L1 : (1 : Int64).toInt = 1 := by decide
      rw [c_i2l, ← g_la] at a1
      have a2 := c_lneg la
      have r := rng64 la
      have r3 := rng64 (-la)
      have r2 := rng32 zs
      omega
    have pre8 : ∀ t, SS p e below m s₁ 112 #[iv p1, iv p2, iv p3, iv p4, iv zs, iv fr, iv to, .val (.long dd), .second, .val (.long la), .second, .unset, .unset] [(.int (lcmpW dd (1 : Int64)))] t → B t := fun t kk => pre7 t (by
      refine XS.lstore X0.here hx rfl (hb hby at_106) rfl (l' := #[iv p1, iv p2, iv p3, iv p4, iv zs, iv fr, iv to, .val (.long dd), .second, .val (.long la), .second, .unset, .unset]) rfl ?_
      show SS p e below m s₁ 108 #[iv p1, iv p2, iv p3, iv p4, iv zs, iv fr, iv to, .val (.long dd), .second, .val (.long la), .second, .unset, .unset] [] _
      refine XS.lload X0.here hx rfl (hb hby at_108) rfl ?_
      show SS p e below m s₁ 110 #[iv p1, iv p2, iv p3, iv p4, iv zs, iv fr, iv to, .val (.long dd), .second, .val (.long la), .second, .unset, .unset] [(.long dd)] _
      refine XS.lconst X0.here hx rfl (hb hby at_110) ?_
      show SS p e below m s₁ 111 #[iv p1, iv p2, iv p3, iv p4, iv zs, iv fr, iv to, .val (.long dd), .second, .val (.long la), .second, .unset, .unset] [(.long (1 : Int64)), (.long dd)] _
      refine XS.lcmp X0.here hx rfl (hb hby at_111) rfl ?_
      show SS p e below m s₁ 112 #[iv p1, iv p2, iv p3, iv p4, iv zs, iv fr, iv to, .val (.long dd), .second, .val (.long la), .second, .unset, .unset] [(.int (lcmpW dd (1 : Int64)))] _
      exact kk)
    by_cases hc9 : (lcmpW dd (1 : Int64)) = (0 : Int32)
    · have pre10 : ∀ t, SS p e below m s₁ 148 #[iv p1, iv p2, iv p3, iv p4, iv zs, iv fr, iv to, .val (.long dd), .second, .val (.long la), .second, iv (1 : Int32), .unset] [] t → B t := fun t kk => pre8 t (by
        refine XS.ifYes X0.here hx rfl (pc0 := 112) (pc' := 141) rfl (hb hby at_112) rfl ((if0 _ _).trans (teq hc9).1) (by decide) (by decide) ?_
        show SS p e below m s₁ 141 #[iv p1, iv p2, iv p3, iv p4, iv zs, iv fr, iv to, .val (.long dd), .second, .val (.long la), .second, .unset, .unset] [] _
        refine XS.iconst X0.here hx rfl (hb hby at_141) ?_
        show SS p e below m s₁ 142 #[iv p1, iv p2, iv p3, iv p4, iv zs, iv fr, iv to, .val (.long dd), .second, .val (.long la), .second, .unset, .unset] [(.int (1 : Int32))] _
        refine XS.goto X0.here hx rfl (pc0 := 142) (pc' := 146) rfl (hb hby at_142) (by decide) (by decide) ?_
        show SS p e below m s₁ 146 #[iv p1, iv p2, iv p3, iv p4, iv zs, iv fr, iv to, .val (.long dd), .second, .val (.long la), .second, .unset, .unset] [(.int (1 : Int32))] _
        refine XS.istore X0.here hx rfl (hb hby at_146) rfl (l' := #[iv p1, iv p2, iv p3, iv p4, iv zs, iv fr, iv to, .val (.long dd), .second, .val (.long la), .second, iv (1 : Int32), .unset]) rfl ?_
        show SS p e below m s₁ 148 #[iv p1, iv p2, iv p3, iv p4, iv zs, iv fr, iv to, .val (.long dd), .second, .val (.long la), .second, iv (1 : Int32), .unset] [] _
        exact kk)
      obtain ⟨T11, h11, X11, e11, E11, A11, D11, -, st11⟩ := newO X0 hx hZ hown (hw _ (List.mem_of_getElem? (i := 4) rfl)) (hw _ (List.mem_of_getElem? (i := 5) rfl)) (hw _ (List.mem_of_getElem? (i := 6) rfl)) e0 (g := (mkF m 148 #[iv p1, iv p2, iv p3, iv p4, iv zs, iv fr, iv to, .val (.long dd), .second, .val (.long la), .second, iv (1 : Int32), .unset] [])) rfl (hb hby at_148) (by decide) (by decide)
      obtain ⟨b11, g11⟩ : ∃ z, z = h0.size := ⟨_, rfl⟩
      rw [← g11] at A11 D11 st11
      have g_b11 : n0 ≤ b11 := Nat.le_trans Z0 (Nat.le_of_eq g11.symm)
      have Z11 : n0 ≤ h11.size := Nat.le_trans Z0 E11.1
      have pre12 : ∀ t, SS p e below m T11 152 #[iv p1, iv p2, iv p3, iv p4, iv zs, iv fr, iv to, .val (.long dd), .second, .val (.long la), .second, iv (1 : Int32), .unset] [(.ref b11), (.ref b11)] t → B t := fun t kk => pre10 t (by
        refine st11 _ ?_
        show SS p e below m T11 151 #[iv p1, iv p2, iv p3, iv p4, iv zs, iv fr, iv to, .val (.long dd), .second, .val (.long la), .second, iv (1 : Int32), .unset] [(.ref b11)] _
        refine XS.dup X11.here hx rfl (hb hby at_151) rfl rfl ?_
        show SS p e below m T11 152 #[iv p1, iv p2, iv p3, iv p4, iv zs, iv fr, iv to, .val (.long dd), .second, .val (.long la), .second, iv (1 : Int32), .unset] [(.ref b11), (.ref b11)] _
        exact kk)
      obtain ⟨_, _, ⟨T13, L13, k13, n13⟩, -, X13, ⟨Lc13, hQ13, l13, y13, z13⟩, st13⟩ := X11.specialBack hx (y := (⟨"com/example/hermit_crab/hermitcrab/sim/Topology$Ring", "<init>", "()V"⟩ : MethodName)) rfl hown (mvT hZ (hw _ (List.mem_of_getElem? (i := 7) rfl))) (mvT hZ (hw _ (List.mem_of_getElem? (i := 8) rfl))) (mvT hZ (hw _ (List.mem_of_getElem? (i := 9) rfl))) (by decide) (backOf (W := 1) (rm1 l Z a0 hw [] b11 h11 n0 Z11 ) hZ (hw _ (List.mem_of_getElem? (i := 9) rfl)) (hw _ (List.mem_of_getElem? (i := 6) rfl)) (by decide) (by decide)) (g := (mkF m 152 #[iv p1, iv p2, iv p3, iv p4, iv zs, iv fr, iv to, .val (.long dd), .second, .val (.long la), .second, iv (1 : Int32), .unset] [(.ref b11), (.ref b11)])) rfl (by rw [hml]; rfl) (Steps.refl _) (a := b11) (argsL := []) (rest := [(.ref b11)]) (lenOf pd_0 rfl) rfl (by show 2 * 0 + _ ≤ _; exact Nat.le_of_eq rfl) (hb hby at_152) (fun _ _ => ⟨rfl, e11, (by decide : 1 + 0 ≤ _), (by decide : 0 + 0 ≤ _)⟩)
      dsimp only [Pt.U, Pt.locs, Pt.cells, Pt.slots] at X13 l13 y13 z13 st13 hQ13
      subst l13 y13 z13
      obtain ⟨rfl, N13q, e13⟩ := hQ13
      have N13 := Fr.app N0 N13q
      have pre14 : ∀ t, SS p e below m T13 165 #[iv p1, iv p2, iv p3, iv p4, iv zs, iv fr, iv to, .val (.long dd), .second, .val (.long la), .second, iv (1 : Int32), rv b11] [(.int zs), (.int to), (.int fr), (.ref b11)] t → B t := fun t kk => pre12 t (by
        refine st13.trans ?_
        show SS p e below m T13 155 #[iv p1, iv p2, iv p3, iv p4, iv zs, iv fr, iv to, .val (.long dd), .second, .val (.long la), .second, iv (1 : Int32), .unset] [(.ref b11)] _
        refine XS.astore X13.here hx rfl (hb hby at_155) rfl rfl (l' := #[iv p1, iv p2, iv p3, iv p4, iv zs, iv fr, iv to, .val (.long dd), .second, .val (.long la), .second, iv (1 : Int32), rv b11]) rfl ?_
        show SS p e below m T13 157 #[iv p1, iv p2, iv p3, iv p4, iv zs, iv fr, iv to, .val (.long dd), .second, .val (.long la), .second, iv (1 : Int32), rv b11] [] _
        refine XS.aload X13.here hx rfl (hb hby at_157) rfl rfl ?_
        show SS p e below m T13 159 #[iv p1, iv p2, iv p3, iv p4, iv zs, iv fr, iv to, .val (.long dd), .second, .val (.long la), .second, iv (1 : Int32), rv b11] [(.ref b11)] _
        refine XS.iload X13.here hx rfl (hb hby at_159) rfl ?_
        show SS p e below m T13 161 #[iv p1, iv p2, iv p3, iv p4, iv zs, iv fr, iv to, .val (.long dd), .second, .val (.long la), .second, iv (1 : Int32), rv b11] [(.int fr), (.ref b11)] _
        refine XS.iload X13.here hx rfl (hb hby at_161) rfl ?_
        show SS p e below m T13 163 #[iv p1, iv p2, iv p3, iv p4, iv zs, iv fr, iv to, .val (.long dd), .second, .val (.long la), .second, iv (1 : Int32), rv b11] [(.int to), (.int fr), (.ref b11)] _
        refine XS.iload X13.here hx rfl (hb hby at_163) rfl ?_
        show SS p e below m T13 165 #[iv p1, iv p2, iv p3, iv p4, iv zs, iv fr, iv to, .val (.long dd), .second, .val (.long la), .second, iv (1 : Int32), rv b11] [(.int zs), (.int to), (.int fr), (.ref b11)] _
        exact kk)
      obtain ⟨cq15, kq15, q15a, q15b, q15c⟩ := isOf hZ e13 A11
      obtain ⟨_, _, ⟨T15, L15, k15, n15⟩, -, X15, ⟨Lc15, hQ15, l15, y15, z15⟩, st15⟩ := X13.virtualBack hx (y := (⟨"com/example/hermit_crab/hermitcrab/sim/Topology$Ring", "links", "(III)Z"⟩ : MethodName)) (z := (⟨"com/example/hermit_crab/hermitcrab/sim/Topology$Ring", "links", "(III)Z"⟩ : MethodName)) hown (mvT hZ (hw _ (List.mem_of_getElem? (i := 18) rfl))) (mvT hZ (hw _ (List.mem_of_getElem? (i := 19) rfl))) (notFace_of_selects (args := #[]) (mvT hZ (hw _ (List.mem_of_getElem? (i := 21) rfl)))) (mvT hZ (hw _ (List.mem_of_getElem? (i := 21) rfl))) (mvT hZ (hw _ (List.mem_of_getElem? (i := 20) rfl))) (by decide) (backOf (W := 0) (rm4 l Z a0 hw [] b11 fr to zs h11 n0 Z11 hnz0) hZ (hw _ (List.mem_of_getElem? (i := 22) rfl)) (hw _ (List.mem_of_getElem? (i := 6) rfl)) (by decide) (by decide)) q15a q15c (g := (mkF m 165 #[iv p1, iv p2, iv p3, iv p4, iv zs, iv fr, iv to, .val (.long dd), .second, .val (.long la), .second, iv (1 : Int32), rv b11] [(.int zs), (.int to), (.int fr), (.ref b11)])) rfl (by rw [hml]; rfl) (Steps.refl _) (argsL := [(.int fr), (.int to), (.int zs)]) (rest := []) (lenOf pd_1 rfl) rfl (by show 2 * 0 + _ ≤ _; exact Nat.le_of_eq rfl) (hb hby at_165) (fun _ _ => ⟨rfl, e13, (by decide : 1 + 0 ≤ _), (by decide : 0 + 0 ≤ _)⟩)
      dsimp only [Pt.U, Pt.locs, Pt.cells, Pt.slots] at X15 l15 y15 z15 st15 hQ15
      subst l15 y15 z15
      obtain ⟨rfl, N15q, e15⟩ := hQ15
      have N15 := Fr.app N13 N15q
      have pre17 : ∀ t, SS p e below m T15 170 #[iv p1, iv p2, iv p3, iv p4, iv zs, iv fr, iv to, .val (.long dd), .second, .val (.long la), .second, iv (1 : Int32), rv b11] [(.int (1 : Int32)), (.int (f4 fr to zs))] t → B t := fun t kk => pre14 t (by
        refine st15.trans ?_
        show SS p e below m T15 168 #[iv p1, iv p2, iv p3, iv p4, iv zs, iv fr, iv to, .val (.long dd), .second, .val (.long la), .second, iv (1 : Int32), rv b11] [(.int (f4 fr to zs))] _
        refine XS.iload X15.here hx rfl (hb hby at_168) rfl ?_
        show SS p e below m T15 170 #[iv p1, iv p2, iv p3, iv p4, iv zs, iv fr, iv to, .val (.long dd), .second, .val (.long la), .second, iv (1 : Int32), rv b11] [(.int (1 : Int32)), (.int (f4 fr to zs))] _
        exact kk)
      have hq18 : (f4 fr to zs) = (1 : Int32) := by
        rw [own_links _ _ _ hz hfr hto]
        have u16 := (lw_eq dd (1 : Int64)).mp hc9
        rw [← Int64.toInt_inj] at u16
        have J1 : (1 : Int64).toInt = 1 := by decide
        have Jm : (-1 : Int64).toInt = -1 := by decide
        rw [if_pos (by omega)]
      have pre19 : ∀ t, SS p e below m T15 178 #[iv p1, iv p2, iv p3, iv p4, iv zs, iv fr, iv to, .val (.long dd), .second, .val (.long la), .second, iv (1 : Int32), rv b11] [(.int (1 : Int32))] t → B t := fun t kk => pre17 t (by
        refine XS.icmpNo X15.here hx rfl (hb hby at_170) rfl (teq hq18).2 ?_
        show SS p e below m T15 173 #[iv p1, iv p2, iv p3, iv p4, iv zs, iv fr, iv to, .val (.long dd), .second, .val (.long la), .second, iv (1 : Int32), rv b11] [] _
        refine XS.iconst X15.here hx rfl (hb hby at_173) ?_
        show SS p e below m T15 174 #[iv p1, iv p2, iv p3, iv p4, iv zs, iv fr, iv to, .val (.long dd), .second, .val (.long la), .second, iv (1 : Int32), rv b11] [(.int (1 : Int32))] _
        refine XS.goto X15.here hx rfl (pc0 := 174) (pc' := 178) rfl (hb hby at_174) (by decide) (by decide) ?_
        show SS p e below m T15 178 #[iv p1, iv p2, iv p3, iv p4, iv zs, iv fr, iv to, .val (.long dd), .second, .val (.long la), .second, iv (1 : Int32), rv b11] [(.int (1 : Int32))] _
        exact kk)
      obtain ⟨fs, hr, hrun, hended, hW, hsame⟩ := X15.leave (v := some (.int (1 : Int32))) (fun h => by rw [Bd.returns] at h; cases h)
      refine ⟨_, _, hB _ (pre19 _ ?_), hrun, hended, _, _, rfl, ?_, ⟨_, rfl⟩, hW, hsame.mono (by decide) (by decide)⟩
      · exact retN X15 hx (t := .boolean) Bd.returns (by simp) (hb hby at_178) hr
      · exact ⟨rfl, N15⟩
    · have pre20 : ∀ t, SS p e below m s₁ 121 #[iv p1, iv p2, iv p3, iv p4, iv zs, iv fr, iv to, .val (.long dd), .second, .val (.long la), .second, .unset, .unset] [(.int (lcmpW dd (-1 : Int64)))] t → B t := fun t kk => pre8 t (by
        refine XS.ifNo X0.here hx rfl (hb hby at_112) rfl ((if0 _ _).trans (feq hc9).1) ?_
        show SS p e below m s₁ 115 #[iv p1, iv p2, iv p3, iv p4, iv zs, iv fr, iv to, .val (.long dd), .second, .val (.long la), .second, .unset, .unset] [] _
        refine XS.lload X0.here hx rfl (hb hby at_115) rfl ?_
        show SS p e below m s₁ 117 #[iv p1, iv p2, iv p3, iv p4, iv zs, iv fr, iv to, .val (.long dd), .second, .val (.long la), .second, .unset, .unset] [(.long dd)] _
        refine X0.ldc2Long hx hown (mvT hZ (hw _ (List.mem_of_getElem? (i := 3) rfl))) (g := (mkF m 117 #[iv p1, iv p2, iv p3, iv p4, iv zs, iv fr, iv to, .val (.long dd), .second, .val (.long la), .second, .unset, .unset] [(.long dd)])) rfl (hb hby at_117) _ ?_
        show SS p e below m s₁ 120 #[iv p1, iv p2, iv p3, iv p4, iv zs, iv fr, iv to, .val (.long dd), .second, .val (.long la), .second, .unset, .unset] [(.long (-1 : Int64)), (.long dd)] _
        refine XS.lcmp X0.here hx rfl (hb hby at_120) rfl ?_
        show SS p e below m s₁ 121 #[iv p1, iv p2, iv p3, iv p4, iv zs, iv fr, iv to, .val (.long dd), .second, .val (.long la), .second, .unset, .unset] [(.int (lcmpW dd (-1 : Int64)))] _
        exact kk)
      by_cases hc21 : (lcmpW dd (-1 : Int64)) = (0 : Int32)
      · have pre22 : ∀ t, SS p e below m s₁ 148 #[iv p1, iv p2, iv p3, iv p4, iv zs, iv fr, iv to, .val (.long dd), .second, .val (.long la), .second, iv (1 : Int32), .unset] [] t → B t := fun t kk => pre20 t (by
          refine XS.ifYes X0.here hx rfl (pc0 := 121) (pc' := 141) rfl (hb hby at_121) rfl ((if0 _ _).trans (teq hc21).1) (by decide) (by decide) ?_
          show SS p e below m s₁ 141 #[iv p1, iv p2, iv p3, iv p4, iv zs, iv fr, iv to, .val (.long dd), .second, .val (.long la), .second, .unset, .unset] [] _
          refine XS.iconst X0.here hx rfl (hb hby at_141) ?_
          show SS p e below m s₁ 142 #[iv p1, iv p2, iv p3, iv p4, iv zs, iv fr, iv to, .val (.long dd), .second, .val (.long la), .second, .unset, .unset] [(.int (1 : Int32))] _
          refine XS.goto X0.here hx rfl (pc0 := 142) (pc' := 146) rfl (hb hby at_142) (by decide) (by decide) ?_
          show SS p e below m s₁ 146 #[iv p1, iv p2, iv p3, iv p4, iv zs, iv fr, iv to, .val (.long dd), .second, .val (.long la), .second, .unset, .unset] [(.int (1 : Int32))] _
          refine XS.istore X0.here hx rfl (hb hby at_146) rfl (l' := #[iv p1, iv p2, iv p3, iv p4, iv zs, iv fr, iv to, .val (.long dd), .second, .val (.long la), .second, iv (1 : Int32), .unset]) rfl ?_
          show SS p e below m s₁ 148 #[iv p1, iv p2, iv p3, iv p4, iv zs, iv fr, iv to, .val (.long dd), .second, .val (.long la), .second, iv (1 : Int32), .unset] [] _
          exact kk)
        obtain ⟨T23, h23, X23, e23, E23, A23, D23, -, st23⟩ := newO X0 hx hZ hown (hw _ (List.mem_of_getElem? (i := 4) rfl)) (hw _ (List.mem_of_getElem? (i := 5) rfl)) (hw _ (List.mem_of_getElem? (i := 6) rfl)) e0 (g := (mkF m 148 #[iv p1, iv p2, iv p3, iv p4, iv zs, iv fr, iv to, .val (.long dd), .second, .val (.long la), .second, iv (1 : Int32), .unset] [])) rfl (hb hby at_148) (by decide) (by decide)
        obtain ⟨b23, g23⟩ : ∃ z, z = h0.size := ⟨_, rfl⟩
        rw [← g23] at A23 D23 st23
        have g_b23 : n0 ≤ b23 := Nat.le_trans Z0 (Nat.le_of_eq g23.symm)
        have Z23 : n0 ≤ h23.size := Nat.le_trans Z0 E23.1
        have pre24 : ∀ t, SS p e below m T23 152 #[iv p1, iv p2, iv p3, iv p4, iv zs, iv fr, iv to, .val (.long dd), .second, .val (.long la), .second, iv (1 : Int32), .unset] [(.ref b23), (.ref b23)] t → B t := fun t kk => pre22 t (by
          refine st23 _ ?_
          show SS p e below m T23 151 #[iv p1, iv p2, iv p3, iv p4, iv zs, iv fr, iv to, .val (.long dd), .second, .val (.long la), .second, iv (1 : Int32), .unset] [(.ref b23)] _
          refine XS.dup X23.here hx rfl (hb hby at_151) rfl rfl ?_
          show SS p e below m T23 152 #[iv p1, iv p2, iv p3, iv p4, iv zs, iv fr, iv to, .val (.long dd), .second, .val (.long la), .second, iv (1 : Int32), .unset] [(.ref b23), (.ref b23)] _
          exact kk)
        obtain ⟨_, _, ⟨T25, L25, k25, n25⟩, -, X25, ⟨Lc25, hQ25, l25, y25, z25⟩, st25⟩ := X23.specialBack hx (y := (⟨"com/example/hermit_crab/hermitcrab/sim/Topology$Ring", "<init>", "()V"⟩ : MethodName)) rfl hown (mvT hZ (hw _ (List.mem_of_getElem? (i := 7) rfl))) (mvT hZ (hw _ (List.mem_of_getElem? (i := 8) rfl))) (mvT hZ (hw _ (List.mem_of_getElem? (i := 9) rfl))) (by decide) (backOf (W := 1) (rm1 l Z a0 hw [] b23 h23 n0 Z23 ) hZ (hw _ (List.mem_of_getElem? (i := 9) rfl)) (hw _ (List.mem_of_getElem? (i := 6) rfl)) (by decide) (by decide)) (g := (mkF m 152 #[iv p1, iv p2, iv p3, iv p4, iv zs, iv fr, iv to, .val (.long dd), .second, .val (.long la), .second, iv (1 : Int32), .unset] [(.ref b23), (.ref b23)])) rfl (by rw [hml]; rfl) (Steps.refl _) (a := b23) (argsL := []) (rest := [(.ref b23)]) (lenOf pd_0 rfl) rfl (by show 2 * 0 + _ ≤ _; exact Nat.le_of_eq rfl) (hb hby at_152) (fun _ _ => ⟨rfl, e23, (by decide : 1 + 0 ≤ _), (by decide : 0 + 0 ≤ _)⟩)
        dsimp only [Pt.U, Pt.locs, Pt.cells, Pt.slots] at X25 l25 y25 z25 st25 hQ25
        subst l25 y25 z25
        obtain ⟨rfl, N25q, e25⟩ := hQ25
        have N25 := Fr.app N0 N25q
        have pre26 : ∀ t, SS p e below m T25 165 #[iv p1, iv p2, iv p3, iv p4, iv zs, iv fr, iv to, .val (.long dd), .second, .val (.long la), .second, iv (1 : Int32), rv b23] [(.int zs), (.int to), (.int fr), (.ref b23)] t → B t := fun t kk => pre24 t (by
          refine st25.trans ?_
          show SS p e below m T25 155 #[iv p1, iv p2, iv p3, iv p4, iv zs, iv fr, iv to, .val (.long dd), .second, .val (.long la), .second, iv (1 : Int32), .unset] [(.ref b23)] _
          refine XS.astore X25.here hx rfl (hb hby at_155) rfl rfl (l' := #[iv p1, iv p2, iv p3, iv p4, iv zs, iv fr, iv to, .val (.long dd), .second, .val (.long la), .second, iv (1 : Int32), rv b23]) rfl ?_
          show SS p e below m T25 157 #[iv p1, iv p2, iv p3, iv p4, iv zs, iv fr, iv to, .val (.long dd), .second, .val (.long la), .second, iv (1 : Int32), rv b23] [] _
          refine XS.aload X25.here hx rfl (hb hby at_157) rfl rfl ?_
          show SS p e below m T25 159 #[iv p1, iv p2, iv p3, iv p4, iv zs, iv fr, iv to, .val (.long dd), .second, .val (.long la), .second, iv (1 : Int32), rv b23] [(.ref b23)] _
          refine XS.iload X25.here hx rfl (hb hby at_159) rfl ?_
          show SS p e below m T25 161 #[iv p1, iv p2, iv p3, iv p4, iv zs, iv fr, iv to, .val (.long dd), .second, .val (.long la), .second, iv (1 : Int32), rv b23] [(.int fr), (.ref b23)] _
          refine XS.iload X25.here hx rfl (hb hby at_161) rfl ?_
          show SS p e below m T25 163 #[iv p1, iv p2, iv p3, iv p4, iv zs, iv fr, iv to, .val (.long dd), .second, .val (.long la), .second, iv (1 : Int32), rv b23] [(.int to), (.int fr), (.ref b23)] _
          refine XS.iload X25.here hx rfl (hb hby at_163) rfl ?_
          show SS p e below m T25 165 #[iv p1, iv p2, iv p3, iv p4, iv zs, iv fr, iv to, .val (.long dd), .second, .val (.long la), .second, iv (1 : Int32), rv b23] [(.int zs), (.int to), (.int fr), (.ref b23)] _
          exact kk)
        obtain ⟨cq27, kq27, q27a, q27b, q27c⟩ := isOf hZ e25 A23
        obtain ⟨_, _, ⟨T27, L27, k27, n27⟩, -, X27, ⟨Lc27, hQ27, l27, y27, z27⟩, st27⟩ := X25.virtualBack hx (y := (⟨"com/example/hermit_crab/hermitcrab/sim/Topology$Ring", "links", "(III)Z"⟩ : MethodName)) (z := (⟨"com/example/hermit_crab/hermitcrab/sim/Topology$Ring", "links", "(III)Z"⟩ : MethodName)) hown (mvT hZ (hw _ (List.mem_of_getElem? (i := 18) rfl))) (mvT hZ (hw _ (List.mem_of_getElem? (i := 19) rfl))) (notFace_of_selects (args := #[]) (mvT hZ (hw _ (List.mem_of_getElem? (i := 21) rfl)))) (mvT hZ (hw _ (List.mem_of_getElem? (i := 21) rfl))) (mvT hZ (hw _ (List.mem_of_getElem? (i := 20) rfl))) (by decide) (backOf (W := 0) (rm4 l Z a0 hw [] b23 fr to zs h23 n0 Z23 hnz0) hZ (hw _ (List.mem_of_getElem? (i := 22) rfl)) (hw _ (List.mem_of_getElem? (i := 6) rfl)) (by decide) (by decide)) q27a q27c (g := (mkF m 165 #[iv p1, iv p2, iv p3, iv p4, iv zs, iv fr, iv to, .val (.long dd), .second, .val (.long la), .second, iv (1 : Int32), rv b23] [(.int zs), (.int to), (.int fr), (.ref b23)])) rfl (by rw [hml]; rfl) (Steps.refl _) (argsL := [(.int fr), (.int to), (.int zs)]) (rest := []) (lenOf pd_1 rfl) rfl (by show 2 * 0 + _ ≤ _; exact Nat.le_of_eq rfl) (hb hby at_165) (fun _ _ => ⟨rfl, e25, (by decide : 1 + 0 ≤ _), (by decide : 0 + 0 ≤ _)⟩)
        dsimp only [Pt.U, Pt.locs, Pt.cells, Pt.slots] at X27 l27 y27 z27 st27 hQ27
        subst l27 y27 z27
        obtain ⟨rfl, N27q, e27⟩ := hQ27
        have N27 := Fr.app N25 N27q
        have pre30 : ∀ t, SS p e below m T27 170 #[iv p1, iv p2, iv p3, iv p4, iv zs, iv fr, iv to, .val (.long dd), .second, .val (.long la), .second, iv (1 : Int32), rv b23] [(.int (1 : Int32)), (.int (f4 fr to zs))] t → B t := fun t kk => pre26 t (by
          refine st27.trans ?_
          show SS p e below m T27 168 #[iv p1, iv p2, iv p3, iv p4, iv zs, iv fr, iv to, .val (.long dd), .second, .val (.long la), .second, iv (1 : Int32), rv b23] [(.int (f4 fr to zs))] _
          refine XS.iload X27.here hx rfl (hb hby at_168) rfl ?_
          show SS p e below m T27 170 #[iv p1, iv p2, iv p3, iv p4, iv zs, iv fr, iv to, .val (.long dd), .second, .val (.long la), .second, iv (1 : Int32), rv b23] [(.int (1 : Int32)), (.int (f4 fr to zs))] _
          exact kk)
        have hq31 : (f4 fr to zs) = (1 : Int32) := by
          rw [own_links _ _ _ hz hfr hto]
          have u28 := mt (lw_eq dd (1 : Int64)).mpr hc9
          rw [← Int64.toInt_inj] at u28
          have u29 := (lw_eq dd (-1 : Int64)).mp hc21
          rw [← Int64.toInt_inj] at u29
          have J1 : (1 : Int64).toInt = 1 := by decide
          have Jm : (-1 : Int64).toInt = -1 := by decide
          rw [if_pos (by omega)]
        have pre32 : ∀ t, SS p e below m T27 178 #[iv p1, iv p2, iv p3, iv p4, iv zs, iv fr, iv to, .val (.long dd), .second, .val (.long la), .second, iv (1 : Int32), rv b23] [(.int (1 : Int32))] t → B t := fun t kk => pre30 t (by
          refine XS.icmpNo X27.here hx rfl (hb hby at_170) rfl (teq hq31).2 ?_
          show SS p e below m T27 173 #[iv p1, iv p2, iv p3, iv p4, iv zs, iv fr, iv to, .val (.long dd), .second, .val (.long la), .second, iv (1 : Int32), rv b23] [] _
          refine XS.iconst X27.here hx rfl (hb hby at_173) ?_
          show SS p e below m T27 174 #[iv p1, iv p2, iv p3, iv p4, iv zs, iv fr, iv to, .val (.long dd), .second, .val (.long la), .second, iv (1 : Int32), rv b23] [(.int (1 : Int32))] _
          refine XS.goto X27.here hx rfl (pc0 := 174) (pc' := 178) rfl (hb hby at_174) (by decide) (by decide) ?_
          show SS p e below m T27 178 #[iv p1, iv p2, iv p3, iv p4, iv zs, iv fr, iv to, .val (.long dd), .second, .val (.long la), .second, iv (1 : Int32), rv b23] [(.int (1 : Int32))] _
          exact kk)
        obtain ⟨fs, hr, hrun, hended, hW, hsame⟩ := X27.leave (v := some (.int (1 : Int32))) (fun h => by rw [Bd.returns] at h; cases h)
        refine ⟨_, _, hB _ (pre32 _ ?_), hrun, hended, _, _, rfl, ?_, ⟨_, rfl⟩, hW, hsame.mono (by decide) (by decide)⟩
        · exact retN X27 hx (t := .boolean) Bd.returns (by simp) (hb hby at_178) hr
        · exact ⟨rfl, N27⟩
      · have pre33 : ∀ t, SS p e below m s₁ 129 #[iv p1, iv p2, iv p3, iv p4, iv zs, iv fr, iv to, .val (.long dd), .second, .val (.long la), .second, .unset, .unset] [(.int (lcmpW dd la))] t → B t := fun t kk => pre20 t (by
          refine XS.ifNo X0.here hx rfl (hb hby at_121) rfl ((if0 _ _).trans (feq hc21).1) ?_
          show SS p e below m s₁ 124 #[iv p1, iv p2, iv p3, iv p4, iv zs, iv fr, iv to, .val (.long dd), .second, .val (.long la), .second, .unset, .unset] [] _
          refine XS.lload X0.here hx rfl (hb hby at_124) rfl ?_
          show SS p e below m s₁ 126 #[iv p1, iv p2, iv p3, iv p4, iv zs, iv fr, iv to, .val (.long dd), .second, .val (.long la), .second, .unset, .unset] [(.long dd)] _
          refine XS.lload X0.here hx rfl (hb hby at_126) rfl ?_
          show SS p e below m s₁ 128 #[iv p1, iv p2, iv p3, iv p4, iv zs, iv fr, iv to, .val (.long dd), .second, .val (.long la), .second, .unset, .unset] [(.long la), (.long dd)] _
          refine XS.lcmp X0.here hx rfl (hb hby at_128) rfl ?_
          show SS p e below m s₁ 129 #[iv p1, iv p2, iv p3, iv p4, iv zs, iv fr, iv to, .val (.long dd), .second, .val (.long la), .second, .unset, .unset] [(.int (lcmpW dd la))] _
          exact kk)
        by_cases hc34 : (lcmpW dd la) = (0 : Int32)
        · have pre35 : ∀ t, SS p e below m s₁ 148 #[iv p1, iv p2, iv p3, iv p4, iv zs, iv fr, iv to, .val (.long dd), .second, .val (.long la), .second, iv (1 : Int32), .unset] [] t → B t := fun t kk => pre33 t (by
            refine XS.ifYes X0.here hx rfl (pc0 := 129) (pc' := 141) rfl (hb hby at_129) rfl ((if0 _ _).trans (teq hc34).1) (by decide) (by decide) ?_
            show SS p e below m s₁ 141 #[iv p1, iv p2, iv p3, iv p4, iv zs, iv fr, iv to, .val (.long dd), .second, .val (.long la), .second, .unset, .unset] [] _
            refine XS.iconst X0.here hx rfl (hb hby at_141) ?_
            show SS p e below m s₁ 142 #[iv p1, iv p2, iv p3, iv p4, iv zs, iv fr, iv to, .val (.long dd), .second, .val (.long la), .second, .unset, .unset] [(.int (1 : Int32))] _
            refine XS.goto X0.here hx rfl (pc0 := 142) (pc' := 146) rfl (hb hby at_142) (by decide) (by decide) ?_
            show SS p e below m s₁ 146 #[iv p1, iv p2, iv p3, iv p4, iv zs, iv fr, iv to, .val (.long dd), .second, .val (.long la), .second, .unset, .unset] [(.int (1 : Int32))] _
            refine XS.istore X0.here hx rfl (hb hby at_146) rfl (l' := #[iv p1, iv p2, iv p3, iv p4, iv zs, iv fr, iv to, .val (.long dd), .second, .val (.long la), .second, iv (1 : Int32), .unset]) rfl ?_
            show SS p e below m s₁ 148 #[iv p1, iv p2, iv p3, iv p4, iv zs, iv fr, iv to, .val (.long dd), .second, .val (.long la), .second, iv (1 : Int32), .unset] [] _
            exact kk)
          obtain ⟨T36, h36, X36, e36, E36, A36, D36, -, st36⟩ := newO X0 hx hZ hown (hw _ (List.mem_of_getElem? (i := 4) rfl)) (hw _ (List.mem_of_getElem? (i := 5) rfl)) (hw _ (List.mem_of_getElem? (i := 6) rfl)) e0 (g := (mkF m 148 #[iv p1, iv p2, iv p3, iv p4, iv zs, iv fr, iv to, .val (.long dd), .second, .val (.long la), .second, iv (1 : Int32), .unset] [])) rfl (hb hby at_148) (by decide) (by decide)
          obtain ⟨b36, g36⟩ : ∃ z, z = h0.size := ⟨_, rfl⟩
          rw [← g36] at A36 D36 st36
          have g_b36 : n0 ≤ b36 := Nat.le_trans Z0 (Nat.le_of_eq g36.symm)
          have Z36 : n0 ≤ h36.size := Nat.le_trans Z0 E36.1
          have pre37 : ∀ t, SS p e below m T36 152 #[iv p1, iv p2, iv p3, iv p4, iv zs, iv fr, iv to, .val (.long dd), .second, .val (.long la), .second, iv (1 : Int32), .unset] [(.ref b36), (.ref b36)] t → B t := fun t kk => pre35 t (by
            refine st36 _ ?_
            show SS p e below m T36 151 #[iv p1, iv p2, iv p3, iv p4, iv zs, iv fr, iv to, .val (.long dd), .second, .val (.long la), .second, iv (1 : Int32), .unset] [(.ref b36)] _
            refine XS.dup X36.here hx rfl (hb hby at_151) rfl rfl ?_
            show SS p e below m T36 152 #[iv p1, iv p2, iv p3, iv p4, iv zs, iv fr, iv to, .val (.long dd), .second, .val (.long la), .second, iv (1 : Int32), .unset] [(.ref b36), (.ref b36)] _
            exact kk)
          obtain ⟨_, _, ⟨T38, L38, k38, n38⟩, -, X38, ⟨Lc38, hQ38, l38, y38, z38⟩, st38⟩ := X36.specialBack hx (y := (⟨"com/example/hermit_crab/hermitcrab/sim/Topology$Ring", "<init>", "()V"⟩ : MethodName)) rfl hown (mvT hZ (hw _ (List.mem_of_getElem? (i := 7) rfl))) (mvT hZ (hw _ (List.mem_of_getElem? (i := 8) rfl))) (mvT hZ (hw _ (List.mem_of_getElem? (i := 9) rfl))) (by decide) (backOf (W := 1) (rm1 l Z a0 hw [] b36 h36 n0 Z36 ) hZ (hw _ (List.mem_of_getElem? (i := 9) rfl)) (hw _ (List.mem_of_getElem? (i := 6) rfl)) (by decide) (by decide)) (g := (mkF m 152 #[iv p1, iv p2, iv p3, iv p4, iv zs, iv fr, iv to, .val (.long dd), .second, .val (.long la), .second, iv (1 : Int32), .unset] [(.ref b36), (.ref b36)])) rfl (by rw [hml]; rfl) (Steps.refl _) (a := b36) (argsL := []) (rest := [(.ref b36)]) (lenOf pd_0 rfl) rfl (by show 2 * 0 + _ ≤ _; exact Nat.le_of_eq rfl) (hb hby at_152) (fun _ _ => ⟨rfl, e36, (by decide : 1 + 0 ≤ _), (by decide : 0 + 0 ≤ _)⟩)
          dsimp only [Pt.U, Pt.locs, Pt.cells, Pt.slots] at X38 l38 y38 z38 st38 hQ38
          subst l38 y38 z38
          obtain ⟨rfl, N38q, e38⟩ := hQ38
          have N38 := Fr.app N0 N38q
          have pre39 : ∀ t, SS p e below m T38 165 #[iv p1, iv p2, iv p3, iv p4, iv zs, iv fr, iv to, .val (.long dd), .second, .val (.long la), .second, iv (1 : Int32), rv b36] [(.int zs), (.int to), (.int fr), (.ref b36)] t → B t := fun t kk => pre37 t (by
            refine st38.trans ?_
            show SS p e below m T38 155 #[iv p1, iv p2, iv p3, iv p4, iv zs, iv fr, iv to, .val (.long dd), .second, .val (.long la), .second, iv (1 : Int32), .unset] [(.ref b36)] _
            refine XS.astore X38.here hx rfl (hb hby at_155) rfl rfl (l' := #[iv p1, iv p2, iv p3, iv p4, iv zs, iv fr, iv to, .val (.long dd), .second, .val (.long la), .second, iv (1 : Int32), rv b36]) rfl ?_
            show SS p e below m T38 157 #[iv p1, iv p2, iv p3, iv p4, iv zs, iv fr, iv to, .val (.long dd), .second, .val (.long la), .second, iv (1 : Int32), rv b36] [] _
            refine XS.aload X38.here hx rfl (hb hby at_157) rfl rfl ?_
            show SS p e below m T38 159 #[iv p1, iv p2, iv p3, iv p4, iv zs, iv fr, iv to, .val (.long dd), .second, .val (.long la), .second, iv (1 : Int32), rv b36] [(.ref b36)] _
            refine XS.iload X38.here hx rfl (hb hby at_159) rfl ?_
            show SS p e below m T38 161 #[iv p1, iv p2, iv p3, iv p4, iv zs, iv fr, iv to, .val (.long dd), .second, .val (.long la), .second, iv (1 : Int32), rv b36] [(.int fr), (.ref b36)] _
            refine XS.iload X38.here hx rfl (hb hby at_161) rfl ?_
            show SS p e below m T38 163 #[iv p1, iv p2, iv p3, iv p4, iv zs, iv fr, iv to, .val (.long dd), .second, .val (.long la), .second, iv (1 : Int32), rv b36] [(.int to), (.int fr), (.ref b36)] _
            refine XS.iload X38.here hx rfl (hb hby at_163) rfl ?_
            show SS p e below m T38 165 #[iv p1, iv p2, iv p3, iv p4, iv zs, iv fr, iv to, .val (.long dd), .second, .val (.long la), .second, iv (1 : Int32), rv b36] [(.int zs), (.int to), (.int fr), (.ref b36)] _
            exact kk)
          obtain ⟨cq40, kq40, q40a, q40b, q40c⟩ := isOf hZ e38 A36
          obtain ⟨_, _, ⟨T40, L40, k40, n40⟩, -, X40, ⟨Lc40, hQ40, l40, y40, z40⟩, st40⟩ := X38.virtualBack hx (y := (⟨"com/example/hermit_crab/hermitcrab/sim/Topology$Ring", "links", "(III)Z"⟩ : MethodName)) (z := (⟨"com/example/hermit_crab/hermitcrab/sim/Topology$Ring", "links", "(III)Z"⟩ : MethodName)) hown (mvT hZ (hw _ (List.mem_of_getElem? (i := 18) rfl))) (mvT hZ (hw _ (List.mem_of_getElem? (i := 19) rfl))) (notFace_of_selects (args := #[]) (mvT hZ (hw _ (List.mem_of_getElem? (i := 21) rfl)))) (mvT hZ (hw _ (List.mem_of_getElem? (i := 21) rfl))) (mvT hZ (hw _ (List.mem_of_getElem? (i := 20) rfl))) (by decide) (backOf (W := 0) (rm4 l Z a0 hw [] b36 fr to zs h36 n0 Z36 hnz0) hZ (hw _ (List.mem_of_getElem? (i := 22) rfl)) (hw _ (List.mem_of_getElem? (i := 6) rfl)) (by decide) (by decide)) q40a q40c (g := (mkF m 165 #[iv p1, iv p2, iv p3, iv p4, iv zs, iv fr, iv to, .val (.long dd), .second, .val (.long la), .second, iv (1 : Int32), rv b36] [(.int zs), (.int to), (.int fr), (.ref b36)])) rfl (by rw [hml]; rfl) (Steps.refl _) (argsL := [(.int fr), (.int to), (.int zs)]) (rest := []) (lenOf pd_1 rfl) rfl (by show 2 * 0 + _ ≤ _; exact Nat.le_of_eq rfl) (hb hby at_165) (fun _ _ => ⟨rfl, e38, (by decide : 1 + 0 ≤ _), (by decide : 0 + 0 ≤ _)⟩)
          dsimp only [Pt.U, Pt.locs, Pt.cells, Pt.slots] at X40 l40 y40 z40 st40 hQ40
          subst l40 y40 z40
          obtain ⟨rfl, N40q, e40⟩ := hQ40
          have N40 := Fr.app N38 N40q
          have pre44 : ∀ t, SS p e below m T40 170 #[iv p1, iv p2, iv p3, iv p4, iv zs, iv fr, iv to, .val (.long dd), .second, .val (.long la), .second, iv (1 : Int32), rv b36] [(.int (1 : Int32)), (.int (f4 fr to zs))] t → B t := fun t kk => pre39 t (by
            refine st40.trans ?_
            show SS p e below m T40 168 #[iv p1, iv p2, iv p3, iv p4, iv zs, iv fr, iv to, .val (.long dd), .second, .val (.long la), .second, iv (1 : Int32), rv b36] [(.int (f4 fr to zs))] _
            refine XS.iload X40.here hx rfl (hb hby at_168) rfl ?_
            show SS p e below m T40 170 #[iv p1, iv p2, iv p3, iv p4, iv zs, iv fr, iv to, .val (.long dd), .second, .val (.long la), .second, iv (1 : Int32), rv b36] [(.int (1 : Int32)), (.int (f4 fr to zs))] _
            exact kk)
          have hq45 : (f4 fr to zs) = (1 : Int32) := by
            rw [own_links _ _ _ hz hfr hto]
            have u41 := mt (lw_eq dd (1 : Int64)).mpr hc9
            rw [← Int64.toInt_inj] at u41
            have u42 := mt (lw_eq dd (-1 : Int64)).mpr hc21
            rw [← Int64.toInt_inj] at u42
            have u43 := (lw_eq dd la).mp hc34
            rw [← Int64.toInt_inj] at u43
            have J1 : (1 : Int64).toInt = 1 := by decide
            have Jm : (-1 : Int64).toInt = -1 := by decide
            rw [if_pos (by omega)]
          have pre46 : ∀ t, SS p e below m T40 178 #[iv p1, iv p2, iv p3, iv p4, iv zs, iv fr, iv to, .val (.long dd), .second, .val (.long la), .second, iv (1 : Int32), rv b36] [(.int (1 : Int32))] t → B t := fun t kk => pre44 t (by
            refine XS.icmpNo X40.here hx rfl (hb hby at_170) rfl (teq hq45).2 ?_
            show SS p e below m T40 173 #[iv p1, iv p2, iv p3, iv p4, iv zs, iv fr, iv to, .val (.long dd), .second, .val (.long la), .second, iv (1 : Int32), rv b36] [] _
            refine XS.iconst X40.here hx rfl (hb hby at_173) ?_
            show SS p e below m T40 174 #[iv p1, iv p2, iv p3, iv p4, iv zs, iv fr, iv to, .val (.long dd), .second, .val (.long la), .second, iv (1 : Int32), rv b36] [(.int (1 : Int32))] _
            refine XS.goto X40.here hx rfl (pc0 := 174) (pc' := 178) rfl (hb hby at_174) (by decide) (by decide) ?_
            show SS p e below m T40 178 #[iv p1, iv p2, iv p3, iv p4, iv zs, iv fr, iv to, .val (.long dd), .second, .val (.long la), .second, iv (1 : Int32), rv b36] [(.int (1 : Int32))] _
            exact kk)
          obtain ⟨fs, hr, hrun, hended, hW, hsame⟩ := X40.leave (v := some (.int (1 : Int32))) (fun h => by rw [Bd.returns] at h; cases h)
          refine ⟨_, _, hB _ (pre46 _ ?_), hrun, hended, _, _, rfl, ?_, ⟨_, rfl⟩, hW, hsame.mono (by decide) (by decide)⟩
          · exact retN X40 hx (t := .boolean) Bd.returns (by simp) (hb hby at_178) hr
          · exact ⟨rfl, N40⟩
        · have pre47 : ∀ t, SS p e below m s₁ 138 #[iv p1, iv p2, iv p3, iv p4, iv zs, iv fr, iv to, .val (.long dd), .second, .val (.long la), .second, .unset, .unset] [(.int (lcmpW dd (-la)))] t → B t := fun t kk => pre33 t (by
            refine XS.ifNo X0.here hx rfl (hb hby at_129) rfl ((if0 _ _).trans (feq hc34).1) ?_
            show SS p e below m s₁ 132 #[iv p1, iv p2, iv p3, iv p4, iv zs, iv fr, iv to, .val (.long dd), .second, .val (.long la), .second, .unset, .unset] [] _
            refine XS.lload X0.here hx rfl (hb hby at_132) rfl ?_
            show SS p e below m s₁ 134 #[iv p1, iv p2, iv p3, iv p4, iv zs, iv fr, iv to, .val (.long dd), .second, .val (.long la), .second, .unset, .unset] [(.long dd)] _
            refine XS.lload X0.here hx rfl (hb hby at_134) rfl ?_
            show SS p e below m s₁ 136 #[iv p1, iv p2, iv p3, iv p4, iv zs, iv fr, iv to, .val (.long dd), .second, .val (.long la), .second, .unset, .unset] [(.long la), (.long dd)] _
            refine XS.lneg X0.here hx rfl (hb hby at_136) rfl ?_
            show SS p e below m s₁ 137 #[iv p1, iv p2, iv p3, iv p4, iv zs, iv fr, iv to, .val (.long dd), .second, .val (.long la), .second, .unset, .unset] [(.long (-la)), (.long dd)] _
            refine XS.lcmp X0.here hx rfl (hb hby at_137) rfl ?_
            show SS p e below m s₁ 138 #[iv p1, iv p2, iv p3, iv p4, iv zs, iv fr, iv to, .val (.long dd), .second, .val (.long la), .second, .unset, .unset] [(.int (lcmpW dd (-la)))] _
            exact kk)
          by_cases hc48 : (lcmpW dd (-la)) = (0 : Int32)
          · have pre49 : ∀ t, SS p e below m s₁ 148 #[iv p1, iv p2, iv p3, iv p4, iv zs, iv fr, iv to, .val (.long dd), .second, .val (.long la), .second, iv (1 : Int32), .unset] [] t → B t := fun t kk => pre47 t (by
              refine XS.ifNo X0.here hx rfl (hb hby at_138) rfl ((if0 _ _).trans (teq hc48).2) ?_
              show SS p e below m s₁ 141 #[iv p1, iv p2, iv p3, iv p4, iv zs, iv fr, iv to, .val (.long dd), .second, .val (.long la), .second, .unset, .unset] [] _
              refine XS.iconst X0.here hx rfl (hb hby at_141) ?_
              show SS p e below m s₁ 142 #[iv p1, iv p2, iv p3, iv p4, iv zs, iv fr, iv to, .val (.long dd), .second, .val (.long la), .second, .unset, .unset] [(.int (1 : Int32))] _
              refine XS.goto X0.here hx rfl (pc0 := 142) (pc' := 146) rfl (hb hby at_142) (by decide) (by decide) ?_
              show SS p e below m s₁ 146 #[iv p1, iv p2, iv p3, iv p4, iv zs, iv fr, iv to, .val (.long dd), .second, .val (.long la), .second, .unset, .unset] [(.int (1 : Int32))] _
              refine XS.istore X0.here hx rfl (hb hby at_146) rfl (l' := #[iv p1, iv p2, iv p3, iv p4, iv zs, iv fr, iv to, .val (.long dd), .second, .val (.long la), .second, iv (1 : Int32), .unset]) rfl ?_
              show SS p e below m s₁ 148 #[iv p1, iv p2, iv p3, iv p4, iv zs, iv fr, iv to, .val (.long dd), .second, .val (.long la), .second, iv (1 : Int32), .unset] [] _
              exact kk)
            obtain ⟨T50, h50, X50, e50, E50, A50, D50, -, st50⟩ := newO X0 hx hZ hown (hw _ (List.mem_of_getElem? (i := 4) rfl)) (hw _ (List.mem_of_getElem? (i := 5) rfl)) (hw _ (List.mem_of_getElem? (i := 6) rfl)) e0 (g := (mkF m 148 #[iv p1, iv p2, iv p3, iv p4, iv zs, iv fr, iv to, .val (.long dd), .second, .val (.long la), .second, iv (1 : Int32), .unset] [])) rfl (hb hby at_148) (by decide) (by decide)
            obtain ⟨b50, g50⟩ : ∃ z, z = h0.size := ⟨_, rfl⟩
            rw [← g50] at A50 D50 st50
            have g_b50 : n0 ≤ b50 := Nat.le_trans Z0 (Nat.le_of_eq g50.symm)
            have Z50 : n0 ≤ h50.size := Nat.le_trans Z0 E50.1
            have pre51 : ∀ t, SS p e below m T50 152 #[iv p1, iv p2, iv p3, iv p4, iv zs, iv fr, iv to, .val (.long dd), .second, .val (.long la), .second, iv (1 : Int32), .unset] [(.ref b50), (.ref b50)] t → B t := fun t kk => pre49 t (by
              refine st50 _ ?_
              show SS p e below m T50 151 #[iv p1, iv p2, iv p3, iv p4, iv zs, iv fr, iv to, .val (.long dd), .second, .val (.long la), .second, iv (1 : Int32), .unset] [(.ref b50)] _
              refine XS.dup X50.here hx rfl (hb hby at_151) rfl rfl ?_
              show SS p e below m T50 152 #[iv p1, iv p2, iv p3, iv p4, iv zs, iv fr, iv to, .val (.long dd), .second, .val (.long la), .second, iv (1 : Int32), .unset] [(.ref b50), (.ref b50)] _
              exact kk)
            obtain ⟨_, _, ⟨T52, L52, k52, n52⟩, -, X52, ⟨Lc52, hQ52, l52, y52, z52⟩, st52⟩ := X50.specialBack hx (y := (⟨"com/example/hermit_crab/hermitcrab/sim/Topology$Ring", "<init>", "()V"⟩ : MethodName)) rfl hown (mvT hZ (hw _ (List.mem_of_getElem? (i := 7) rfl))) (mvT hZ (hw _ (List.mem_of_getElem? (i := 8) rfl))) (mvT hZ (hw _ (List.mem_of_getElem? (i := 9) rfl))) (by decide) (backOf (W := 1) (rm1 l Z a0 hw [] b50 h50 n0 Z50 ) hZ (hw _ (List.mem_of_getElem? (i := 9) rfl)) (hw _ (List.mem_of_getElem? (i := 6) rfl)) (by decide) (by decide)) (g := (mkF m 152 #[iv p1, iv p2, iv p3, iv p4, iv zs, iv fr, iv to, .val (.long dd), .second, .val (.long la), .second, iv (1 : Int32), .unset] [(.ref b50), (.ref b50)])) rfl (by rw [hml]; rfl) (Steps.refl _) (a := b50) (argsL := []) (rest := [(.ref b50)]) (lenOf pd_0 rfl) rfl (by show 2 * 0 + _ ≤ _; exact Nat.le_of_eq rfl) (hb hby at_152) (fun _ _ => ⟨rfl, e50, (by decide : 1 + 0 ≤ _), (by decide : 0 + 0 ≤ _)⟩)
            dsimp only [Pt.U, Pt.locs, Pt.cells, Pt.slots] at X52 l52 y52 z52 st52 hQ52
            subst l52 y52 z52
            obtain ⟨rfl, N52q, e52⟩ := hQ52
            have N52 := Fr.app N0 N52q
            have pre53 : ∀ t, SS p e below m T52 165 #[iv p1, iv p2, iv p3, iv p4, iv zs, iv fr, iv to, .val (.long dd), .second, .val (.long la), .second, iv (1 : Int32), rv b50] [(.int zs), (.int to), (.int fr), (.ref b50)] t → B t := fun t kk => pre51 t (by
              refine st52.trans ?_
              show SS p e below m T52 155 #[iv p1, iv p2, iv p3, iv p4, iv zs, iv fr, iv to, .val (.long dd), .second, .val (.long la), .second, iv (1 : Int32), .unset] [(.ref b50)] _
              refine XS.astore X52.here hx rfl (hb hby at_155) rfl rfl (l' := #[iv p1, iv p2, iv p3, iv p4, iv zs, iv fr, iv to, .val (.long dd), .second, .val (.long la), .second, iv (1 : Int32), rv b50]) rfl ?_
              show SS p e below m T52 157 #[iv p1, iv p2, iv p3, iv p4, iv zs, iv fr, iv to, .val (.long dd), .second, .val (.long la), .second, iv (1 : Int32), rv b50] [] _
              refine XS.aload X52.here hx rfl (hb hby at_157) rfl rfl ?_
              show SS p e below m T52 159 #[iv p1, iv p2, iv p3, iv p4, iv zs, iv fr, iv to, .val (.long dd), .second, .val (.long la), .second, iv (1 : Int32), rv b50] [(.ref b50)] _
              refine XS.iload X52.here hx rfl (hb hby at_159) rfl ?_
              show SS p e below m T52 161 #[iv p1, iv p2, iv p3, iv p4, iv zs, iv fr, iv to, .val (.long dd), .second, .val (.long la), .second, iv (1 : Int32), rv b50] [(.int fr), (.ref b50)] _
              refine XS.iload X52.here hx rfl (hb hby at_161) rfl ?_
              show SS p e below m T52 163 #[iv p1, iv p2, iv p3, iv p4, iv zs, iv fr, iv to, .val (.long dd), .second, .val (.long la), .second, iv (1 : Int32), rv b50] [(.int to), (.int fr), (.ref b50)] _
              refine XS.iload X52.here hx rfl (hb hby at_163) rfl ?_
              show SS p e below m T52 165 #[iv p1, iv p2, iv p3, iv p4, iv zs, iv fr, iv to, .val (.long dd), .second, .val (.long la), .second, iv (1 : Int32), rv b50] [(.int zs), (.int to), (.int fr), (.ref b50)] _
              exact kk)
            obtain ⟨cq54, kq54, q54a, q54b, q54c⟩ := isOf hZ e52 A50
            obtain ⟨_, _, ⟨T54, L54, k54, n54⟩, -, X54, ⟨Lc54, hQ54, l54, y54, z54⟩, st54⟩ := X52.virtualBack hx (y := (⟨"com/example/hermit_crab/hermitcrab/sim/Topology$Ring", "links", "(III)Z"⟩ : MethodName)) (z := (⟨"com/example/hermit_crab/hermitcrab/sim/Topology$Ring", "links", "(III)Z"⟩ : MethodName)) hown (mvT hZ (hw _ (List.mem_of_getElem? (i := 18) rfl))) (mvT hZ (hw _ (List.mem_of_getElem? (i := 19) rfl))) (notFace_of_selects (args := #[]) (mvT hZ (hw _ (List.mem_of_getElem? (i := 21) rfl)))) (mvT hZ (hw _ (List.mem_of_getElem? (i := 21) rfl))) (mvT hZ (hw _ (List.mem_of_getElem? (i := 20) rfl))) (by decide) (backOf (W := 0) (rm4 l Z a0 hw [] b50 fr to zs h50 n0 Z50 hnz0) hZ (hw _ (List.mem_of_getElem? (i := 22) rfl)) (hw _ (List.mem_of_getElem? (i := 6) rfl)) (by decide) (by decide)) q54a q54c (g := (mkF m 165 #[iv p1, iv p2, iv p3, iv p4, iv zs, iv fr, iv to, .val (.long dd), .second, .val (.long la), .second, iv (1 : Int32), rv b50] [(.int zs), (.int to), (.int fr), (.ref b50)])) rfl (by rw [hml]; rfl) (Steps.refl _) (argsL := [(.int fr), (.int to), (.int zs)]) (rest := []) (lenOf pd_1 rfl) rfl (by show 2 * 0 + _ ≤ _; exact Nat.le_of_eq rfl) (hb hby at_165) (fun _ _ => ⟨rfl, e52, (by decide : 1 + 0 ≤ _), (by decide : 0 + 0 ≤ _)⟩)
            dsimp only [Pt.U, Pt.locs, Pt.cells, Pt.slots] at X54 l54 y54 z54 st54 hQ54
            subst l54 y54 z54
            obtain ⟨rfl, N54q, e54⟩ := hQ54
            have N54 := Fr.app N52 N54q
            have pre59 : ∀ t, SS p e below m T54 170 #[iv p1, iv p2, iv p3, iv p4, iv zs, iv fr, iv to, .val (.long dd), .second, .val (.long la), .second, iv (1 : Int32), rv b50] [(.int (1 : Int32)), (.int (f4 fr to zs))] t → B t := fun t kk => pre53 t (by
              refine st54.trans ?_
              show SS p e below m T54 168 #[iv p1, iv p2, iv p3, iv p4, iv zs, iv fr, iv to, .val (.long dd), .second, .val (.long la), .second, iv (1 : Int32), rv b50] [(.int (f4 fr to zs))] _
              refine XS.iload X54.here hx rfl (hb hby at_168) rfl ?_
              show SS p e below m T54 170 #[iv p1, iv p2, iv p3, iv p4, iv zs, iv fr, iv to, .val (.long dd), .second, .val (.long la), .second, iv (1 : Int32), rv b50] [(.int (1 : Int32)), (.int (f4 fr to zs))] _
              exact kk)
            have hq60 : (f4 fr to zs) = (1 : Int32) := by
              rw [own_links _ _ _ hz hfr hto]
              have u55 := mt (lw_eq dd (1 : Int64)).mpr hc9
              rw [← Int64.toInt_inj] at u55
              have u56 := mt (lw_eq dd (-1 : Int64)).mpr hc21
              rw [← Int64.toInt_inj] at u56
              have u57 := mt (lw_eq dd la).mpr hc34
              rw [← Int64.toInt_inj] at u57
              have u58 := (lw_eq dd (-la)).mp hc48
              rw [← Int64.toInt_inj] at u58
              have J1 : (1 : Int64).toInt = 1 := by decide
              have Jm : (-1 : Int64).toInt = -1 := by decide
              rw [if_pos (by omega)]
            have pre61 : ∀ t, SS p e below m T54 178 #[iv p1, iv p2, iv p3, iv p4, iv zs, iv fr, iv to, .val (.long dd), .second, .val (.long la), .second, iv (1 : Int32), rv b50] [(.int (1 : Int32))] t → B t := fun t kk => pre59 t (by
              refine XS.icmpNo X54.here hx rfl (hb hby at_170) rfl (teq hq60).2 ?_
              show SS p e below m T54 173 #[iv p1, iv p2, iv p3, iv p4, iv zs, iv fr, iv to, .val (.long dd), .second, .val (.long la), .second, iv (1 : Int32), rv b50] [] _
              refine XS.iconst X54.here hx rfl (hb hby at_173) ?_
              show SS p e below m T54 174 #[iv p1, iv p2, iv p3, iv p4, iv zs, iv fr, iv to, .val (.long dd), .second, .val (.long la), .second, iv (1 : Int32), rv b50] [(.int (1 : Int32))] _
              refine XS.goto X54.here hx rfl (pc0 := 174) (pc' := 178) rfl (hb hby at_174) (by decide) (by decide) ?_
              show SS p e below m T54 178 #[iv p1, iv p2, iv p3, iv p4, iv zs, iv fr, iv to, .val (.long dd), .second, .val (.long la), .second, iv (1 : Int32), rv b50] [(.int (1 : Int32))] _
              exact kk)
            obtain ⟨fs, hr, hrun, hended, hW, hsame⟩ := X54.leave (v := some (.int (1 : Int32))) (fun h => by rw [Bd.returns] at h; cases h)
            refine ⟨_, _, hB _ (pre61 _ ?_), hrun, hended, _, _, rfl, ?_, ⟨_, rfl⟩, hW, hsame.mono (by decide) (by decide)⟩
            · exact retN X54 hx (t := .boolean) Bd.returns (by simp) (hb hby at_178) hr
            · exact ⟨rfl, N54⟩
          · have pre62 : ∀ t, SS p e below m s₁ 148 #[iv p1, iv p2, iv p3, iv p4, iv zs, iv fr, iv to, .val (.long dd), .second, .val (.long la), .second, iv (0 : Int32), .unset] [] t → B t := fun t kk => pre47 t (by
              refine XS.ifYes X0.here hx rfl (pc0 := 138) (pc' := 145) rfl (hb hby at_138) rfl ((if0 _ _).trans (feq hc48).2) (by decide) (by decide) ?_
              show SS p e below m s₁ 145 #[iv p1, iv p2, iv p3, iv p4, iv zs, iv fr, iv to, .val (.long dd), .second, .val (.long la), .second, .unset, .unset] [] _
              refine XS.iconst X0.here hx rfl (hb hby at_145) ?_
              show SS p e below m s₁ 146 #[iv p1, iv p2, iv p3, iv p4, iv zs, iv fr, iv to, .val (.long dd), .second, .val (.long la), .second, .unset, .unset] [(.int (0 : Int32))] _
              refine XS.istore X0.here hx rfl (hb hby at_146) rfl (l' := #[iv p1, iv p2, iv p3, iv p4, iv zs, iv fr, iv to, .val (.long dd), .second, .val (.long la), .second, iv (0 : Int32), .unset]) rfl ?_
              show SS p e below m s₁ 148 #[iv p1, iv p2, iv p3, iv p4, iv zs, iv fr, iv to, .val (.long dd), .second, .val (.long la), .second, iv (0 : Int32), .unset] [] _
              exact kk)
            obtain ⟨T63, h63, X63, e63, E63, A63, D63, -, st63⟩ := newO X0 hx hZ hown (hw _ (List.mem_of_getElem? (i := 4) rfl)) (hw _ (List.mem_of_getElem? (i := 5) rfl)) (hw _ (List.mem_of_getElem? (i := 6) rfl)) e0 (g := (mkF m 148 #[iv p1, iv p2, iv p3, iv p4, iv zs, iv fr, iv to, .val (.long dd), .second, .val (.long la), .second, iv (0 : Int32), .unset] [])) rfl (hb hby at_148) (by decide) (by decide)
            obtain ⟨b63, g63⟩ : ∃ z, z = h0.size := ⟨_, rfl⟩
            rw [← g63] at A63 D63 st63
            have g_b63 : n0 ≤ b63 := Nat.le_trans Z0 (Nat.le_of_eq g63.symm)
            have Z63 : n0 ≤ h63.size := Nat.le_trans Z0 E63.1
            have pre64 : ∀ t, SS p e below m T63 152 #[iv p1, iv p2, iv p3, iv p4, iv zs, iv fr, iv to, .val (.long dd), .second, .val (.long la), .second, iv (0 : Int32), .unset] [(.ref b63), (.ref b63)] t → B t := fun t kk => pre62 t (by
              refine st63 _ ?_
              show SS p e below m T63 151 #[iv p1, iv p2, iv p3, iv p4, iv zs, iv fr, iv to, .val (.long dd), .second, .val (.long la), .second, iv (0 : Int32), .unset] [(.ref b63)] _
              refine XS.dup X63.here hx rfl (hb hby at_151) rfl rfl ?_
              show SS p e below m T63 152 #[iv p1, iv p2, iv p3, iv p4, iv zs, iv fr, iv to, .val (.long dd), .second, .val (.long la), .second, iv (0 : Int32), .unset] [(.ref b63), (.ref b63)] _
              exact kk)
            obtain ⟨_, _, ⟨T65, L65, k65, n65⟩, -, X65, ⟨Lc65, hQ65, l65, y65, z65⟩, st65⟩ := X63.specialBack hx (y := (⟨"com/example/hermit_crab/hermitcrab/sim/Topology$Ring", "<init>", "()V"⟩ : MethodName)) rfl hown (mvT hZ (hw _ (List.mem_of_getElem? (i := 7) rfl))) (mvT hZ (hw _ (List.mem_of_getElem? (i := 8) rfl))) (mvT hZ (hw _ (List.mem_of_getElem? (i := 9) rfl))) (by decide) (backOf (W := 1) (rm1 l Z a0 hw [] b63 h63 n0 Z63 ) hZ (hw _ (List.mem_of_getElem? (i := 9) rfl)) (hw _ (List.mem_of_getElem? (i := 6) rfl)) (by decide) (by decide)) (g := (mkF m 152 #[iv p1, iv p2, iv p3, iv p4, iv zs, iv fr, iv to, .val (.long dd), .second, .val (.long la), .second, iv (0 : Int32), .unset] [(.ref b63), (.ref b63)])) rfl (by rw [hml]; rfl) (Steps.refl _) (a := b63) (argsL := []) (rest := [(.ref b63)]) (lenOf pd_0 rfl) rfl (by show 2 * 0 + _ ≤ _; exact Nat.le_of_eq rfl) (hb hby at_152) (fun _ _ => ⟨rfl, e63, (by decide : 1 + 0 ≤ _), (by decide : 0 + 0 ≤ _)⟩)
            dsimp only [Pt.U, Pt.locs, Pt.cells, Pt.slots] at X65 l65 y65 z65 st65 hQ65
            subst l65 y65 z65
            obtain ⟨rfl, N65q, e65⟩ := hQ65
            have N65 := Fr.app N0 N65q
            have pre66 : ∀ t, SS p e below m T65 165 #[iv p1, iv p2, iv p3, iv p4, iv zs, iv fr, iv to, .val (.long dd), .second, .val (.long la), .second, iv (0 : Int32), rv b63] [(.int zs), (.int to), (.int fr), (.ref b63)] t → B t := fun t kk => pre64 t (by
              refine st65.trans ?_
              show SS p e below m T65 155 #[iv p1, iv p2, iv p3, iv p4, iv zs, iv fr, iv to, .val (.long dd), .second, .val (.long la), .second, iv (0 : Int32), .unset] [(.ref b63)] _
              refine XS.astore X65.here hx rfl (hb hby at_155) rfl rfl (l' := #[iv p1, iv p2, iv p3, iv p4, iv zs, iv fr, iv to, .val (.long dd), .second, .val (.long la), .second, iv (0 : Int32), rv b63]) rfl ?_
              show SS p e below m T65 157 #[iv p1, iv p2, iv p3, iv p4, iv zs, iv fr, iv to, .val (.long dd), .second, .val (.long la), .second, iv (0 : Int32), rv b63] [] _
              refine XS.aload X65.here hx rfl (hb hby at_157) rfl rfl ?_
              show SS p e below m T65 159 #[iv p1, iv p2, iv p3, iv p4, iv zs, iv fr, iv to, .val (.long dd), .second, .val (.long la), .second, iv (0 : Int32), rv b63] [(.ref b63)] _
              refine XS.iload X65.here hx rfl (hb hby at_159) rfl ?_
              show SS p e below m T65 161 #[iv p1, iv p2, iv p3, iv p4, iv zs, iv fr, iv to, .val (.long dd), .second, .val (.long la), .second, iv (0 : Int32), rv b63] [(.int fr), (.ref b63)] _
              refine XS.iload X65.here hx rfl (hb hby at_161) rfl ?_
              show SS p e below m T65 163 #[iv p1, iv p2, iv p3, iv p4, iv zs, iv fr, iv to, .val (.long dd), .second, .val (.long la), .second, iv (0 : Int32), rv b63] [(.int to), (.int fr), (.ref b63)] _
              refine XS.iload X65.here hx rfl (hb hby at_163) rfl ?_
              show SS p e below m T65 165 #[iv p1, iv p2, iv p3, iv p4, iv zs, iv fr, iv to, .val (.long dd), .second, .val (.long la), .second, iv (0 : Int32), rv b63] [(.int zs), (.int to), (.int fr), (.ref b63)] _
              exact kk)
            obtain ⟨cq67, kq67, q67a, q67b, q67c⟩ := isOf hZ e65 A63
            obtain ⟨_, _, ⟨T67, L67, k67, n67⟩, -, X67, ⟨Lc67, hQ67, l67, y67, z67⟩, st67⟩ := X65.virtualBack hx (y := (⟨"com/example/hermit_crab/hermitcrab/sim/Topology$Ring", "links", "(III)Z"⟩ : MethodName)) (z := (⟨"com/example/hermit_crab/hermitcrab/sim/Topology$Ring", "links", "(III)Z"⟩ : MethodName)) hown (mvT hZ (hw _ (List.mem_of_getElem? (i := 18) rfl))) (mvT hZ (hw _ (List.mem_of_getElem? (i := 19) rfl))) (notFace_of_selects (args := #[]) (mvT hZ (hw _ (List.mem_of_getElem? (i := 21) rfl)))) (mvT hZ (hw _ (List.mem_of_getElem? (i := 21) rfl))) (mvT hZ (hw _ (List.mem_of_getElem? (i := 20) rfl))) (by decide) (backOf (W := 0) (rm4 l Z a0 hw [] b63 fr to zs h63 n0 Z63 hnz0) hZ (hw _ (List.mem_of_getElem? (i := 22) rfl)) (hw _ (List.mem_of_getElem? (i := 6) rfl)) (by decide) (by decide)) q67a q67c (g := (mkF m 165 #[iv p1, iv p2, iv p3, iv p4, iv zs, iv fr, iv to, .val (.long dd), .second, .val (.long la), .second, iv (0 : Int32), rv b63] [(.int zs), (.int to), (.int fr), (.ref b63)])) rfl (by rw [hml]; rfl) (Steps.refl _) (argsL := [(.int fr), (.int to), (.int zs)]) (rest := []) (lenOf pd_1 rfl) rfl (by show 2 * 0 + _ ≤ _; exact Nat.le_of_eq rfl) (hb hby at_165) (fun _ _ => ⟨rfl, e65, (by decide : 1 + 0 ≤ _), (by decide : 0 + 0 ≤ _)⟩)
            dsimp only [Pt.U, Pt.locs, Pt.cells, Pt.slots] at X67 l67 y67 z67 st67 hQ67
            subst l67 y67 z67
            obtain ⟨rfl, N67q, e67⟩ := hQ67
            have N67 := Fr.app N65 N67q
            have pre72 : ∀ t, SS p e below m T67 170 #[iv p1, iv p2, iv p3, iv p4, iv zs, iv fr, iv to, .val (.long dd), .second, .val (.long la), .second, iv (0 : Int32), rv b63] [(.int (0 : Int32)), (.int (f4 fr to zs))] t → B t := fun t kk => pre66 t (by
              refine st67.trans ?_
              show SS p e below m T67 168 #[iv p1, iv p2, iv p3, iv p4, iv zs, iv fr, iv to, .val (.long dd), .second, .val (.long la), .second, iv (0 : Int32), rv b63] [(.int (f4 fr to zs))] _
              refine XS.iload X67.here hx rfl (hb hby at_168) rfl ?_
              show SS p e below m T67 170 #[iv p1, iv p2, iv p3, iv p4, iv zs, iv fr, iv to, .val (.long dd), .second, .val (.long la), .second, iv (0 : Int32), rv b63] [(.int (0 : Int32)), (.int (f4 fr to zs))] _
              exact kk)
            have hq73 : (f4 fr to zs) = (0 : Int32) := by
              rw [own_links _ _ _ hz hfr hto]
              have u68 := mt (lw_eq dd (1 : Int64)).mpr hc9
              rw [← Int64.toInt_inj] at u68
              have u69 := mt (lw_eq dd (-1 : Int64)).mpr hc21
              rw [← Int64.toInt_inj] at u69
              have u70 := mt (lw_eq dd la).mpr hc34
              rw [← Int64.toInt_inj] at u70
              have u71 := mt (lw_eq dd (-la)).mpr hc48
              rw [← Int64.toInt_inj] at u71
              have J1 : (1 : Int64).toInt = 1 := by decide
              have Jm : (-1 : Int64).toInt = -1 := by decide
              rw [if_neg (by omega)]
            have pre74 : ∀ t, SS p e below m T67 178 #[iv p1, iv p2, iv p3, iv p4, iv zs, iv fr, iv to, .val (.long dd), .second, .val (.long la), .second, iv (0 : Int32), rv b63] [(.int (1 : Int32))] t → B t := fun t kk => pre72 t (by
              refine XS.icmpNo X67.here hx rfl (hb hby at_170) rfl (teq hq73).2 ?_
              show SS p e below m T67 173 #[iv p1, iv p2, iv p3, iv p4, iv zs, iv fr, iv to, .val (.long dd), .second, .val (.long la), .second, iv (0 : Int32), rv b63] [] _
              refine XS.iconst X67.here hx rfl (hb hby at_173) ?_
              show SS p e below m T67 174 #[iv p1, iv p2, iv p3, iv p4, iv zs, iv fr, iv to, .val (.long dd), .second, .val (.long la), .second, iv (0 : Int32), rv b63] [(.int (1 : Int32))] _
              refine XS.goto X67.here hx rfl (pc0 := 174) (pc' := 178) rfl (hb hby at_174) (by decide) (by decide) ?_
              show SS p e below m T67 178 #[iv p1, iv p2, iv p3, iv p4, iv zs, iv fr, iv to, .val (.long dd), .second, .val (.long la), .second, iv (0 : Int32), rv b63] [(.int (1 : Int32))] _
              exact kk)
            obtain ⟨fs, hr, hrun, hended, hW, hsame⟩ := X67.leave (v := some (.int (1 : Int32))) (fun h => by rw [Bd.returns] at h; cases h)
            refine ⟨_, _, hB _ (pre74 _ ?_), hrun, hended, _, _, rfl, ?_, ⟨_, rfl⟩, hW, hsame.mono (by decide) (by decide)⟩
            · exact retN X67 hx (t := .boolean) Bd.returns (by simp) (hb hby at_178) hr
            · exact ⟨rfl, N67⟩
  · have pre75 : ∀ t, SS p e below m s₁ 41 #[iv p1, iv p2, iv p3, iv p4, iv zs, iv fr, .unset, .unset, .unset, .unset, .unset, .unset, .unset] [(.long (((fr.toInt64) + (((p3 &&& (2147483647 : Int32)) % (5 : Int32)).toInt64)) - (2 : Int64)))] t → B t := fun t kk => pre3 t (by
      refine XS.ifNo X0.here hx rfl (hb hby at_23) rfl ((if0 _ _).trans (feq hc4).1) ?_
      show SS p e below m s₁ 26 #[iv p1, iv p2, iv p3, iv p4, iv zs, iv fr, .unset, .unset, .unset, .unset, .unset, .unset, .unset] [] _
      refine XS.iload X0.here hx rfl (hb hby at_26) rfl ?_
      show SS p e below m s₁ 28 #[iv p1, iv p2, iv p3, iv p4, iv zs, iv fr, .unset, .unset, .unset, .unset, .unset, .unset, .unset] [(.int fr)] _
      refine XS.i2l X0.here hx rfl (hb hby at_28) rfl ?_
      show SS p e below m s₁ 29 #[iv p1, iv p2, iv p3, iv p4, iv zs, iv fr, .unset, .unset, .unset, .unset, .unset, .unset, .unset] [(.long (fr.toInt64))] _
      refine XS.iloadN X0.here hx rfl (hb hby at_29) rfl ?_
      show SS p e below m s₁ 30 #[iv p1, iv p2, iv p3, iv p4, iv zs, iv fr, .unset, .unset, .unset, .unset, .unset, .unset, .unset] [(.int p3), (.long (fr.toInt64))] _
      refine X0.ldcInt hx hown (mvT hZ (hw _ (List.mem_of_getElem? (i := 0) rfl))) (g := (mkF m 30 #[iv p1, iv p2, iv p3, iv p4, iv zs, iv fr, .unset, .unset, .unset, .unset, .unset, .unset, .unset] [(.int p3), (.long (fr.toInt64))])) rfl (hb hby at_30) _ ?_
      show SS p e below m s₁ 32 #[iv p1, iv p2, iv p3, iv p4, iv zs, iv fr, .unset, .unset, .unset, .unset, .unset, .unset, .unset] [(.int (2147483647 : Int32)), (.int p3), (.long (fr.toInt64))] _
      refine XS.iand X0.here hx rfl (hb hby at_32) rfl ?_
      show SS p e below m s₁ 33 #[iv p1, iv p2, iv p3, iv p4, iv zs, iv fr, .unset, .unset, .unset, .unset, .unset, .unset, .unset] [(.int (p3 &&& (2147483647 : Int32))), (.long (fr.toInt64))] _
      refine XS.iconst X0.here hx rfl (hb hby at_33) ?_
      show SS p e below m s₁ 34 #[iv p1, iv p2, iv p3, iv p4, iv zs, iv fr, .unset, .unset, .unset, .unset, .unset, .unset, .unset] [(.int (5 : Int32)), (.int (p3 &&& (2147483647 : Int32))), (.long (fr.toInt64))] _
      refine iremM (g := (mkF m 34 #[iv p1, iv p2, iv p3, iv p4, iv zs, iv fr, .unset, .unset, .unset, .unset, .unset, .unset, .unset] [(.int (5 : Int32)), (.int (p3 &&& (2147483647 : Int32))), (.long (fr.toInt64))])) X0 hx rfl (hb hby at_34) rfl (by decide) ?_
      show SS p e below m s₁ 35 #[iv p1, iv p2, iv p3, iv p4, iv zs, iv fr, .unset, .unset, .unset, .unset, .unset, .unset, .unset] [(.int ((p3 &&& (2147483647 : Int32)) % (5 : Int32))), (.long (fr.toInt64))] _
      refine XS.i2l X0.here hx rfl (hb hby at_35) rfl ?_
      show SS p e below m s₁ 36 #[iv p1, iv p2, iv p3, iv p4, iv zs, iv fr, .unset, .unset, .unset, .unset, .unset, .unset, .unset] [(.long (((p3 &&& (2147483647 : Int32)) % (5 : Int32)).toInt64)), (.long (fr.toInt64))] _
      refine XS.ladd X0.here hx rfl (hb hby at_36) rfl ?_
      show SS p e below m s₁ 37 #[iv p1, iv p2, iv p3, iv p4, iv zs, iv fr, .unset, .unset, .unset, .unset, .unset, .unset, .unset] [(.long ((fr.toInt64) + (((p3 &&& (2147483647 : Int32)) % (5 : Int32)).toInt64)))] _
      refine X0.ldc2Long hx hown (mvT hZ (hw _ (List.mem_of_getElem? (i := 2) rfl))) (g := (mkF m 37 #[iv p1, iv p2, iv p3, iv p4, iv zs, iv fr, .unset, .unset, .unset, .unset, .unset, .unset, .unset] [(.long ((fr.toInt64) + (((p3 &&& (2147483647 : Int32)) % (5 : Int32)).toInt64)))])) rfl (hb hby at_37) _ ?_
      show SS p e below m s₁ 40 #[iv p1, iv p2, iv p3, iv p4, iv zs, iv fr, .unset, .unset, .unset, .unset, .unset, .unset, .unset] [(.long (2 : Int64)), (.long ((fr.toInt64) + (((p3 &&& (2147483647 : Int32)) % (5 : Int32)).toInt64)))] _
      refine XS.lsub X0.here hx rfl (hb hby at_40) rfl ?_
      show SS p e below m s₁ 41 #[iv p1, iv p2, iv p3, iv p4, iv zs, iv fr, .unset, .unset, .unset, .unset, .unset, .unset, .unset] [(.long (((fr.toInt64) + (((p3 &&& (2147483647 : Int32)) % (5 : Int32)).toInt64)) - (2 : Int64)))] _
      exact kk)
    obtain ⟨c1, g_c1⟩ : ∃ z, z = (((fr.toInt64) + (((p3 &&& (2147483647 : Int32)) % (5 : Int32)).toInt64)) - (2 : Int64)) := ⟨_, rfl⟩
    rw [← g_c1] at pre75
    have kc1 : fr.toInt - 2 ≤ c1.toInt ∧ c1.toInt ≤ fr.toInt + 2 := by
      have t5 := own_t5 p3
      have a1 := c_ladd (fr.toInt64) (((p3 &&& (2147483647 : Int32)) % (5 : Int32)).toInt64)
      have a2 := c_lsub ((fr.toInt64) + (((p3 &&& (2147483647 : Int32)) % (5 : Int32)).toInt64)) (2 : Int64)
      have L2 : (2 : Int64).toInt = 2 := by decide
      have r := rng64 ((fr.toInt64) + (((p3 &&& (2147483647 : Int32)) % (5 : Int32)).toInt64))
      have rr := rng64 c1
      have rz := rng32 zs
      rw [c_i2l, c_i2l] at a1
      rw [← g_c1] at a2
      omega
    have pre76 : ∀ t, SS p e below m s₁ 47 #[iv p1, iv p2, iv p3, iv p4, iv zs, iv fr, .unset, .val (.long c1), .second, .unset, .unset, .unset, .unset] [(.int (lcmpW c1 (0 : Int64)))] t → B t := fun t kk => pre75 t (by
      refine XS.lstore X0.here hx rfl (hb hby at_41) rfl (l' := #[iv p1, iv p2, iv p3, iv p4, iv zs, iv fr, .unset, .val (.long c1), .second, .unset, .unset, .unset, .unset]) rfl ?_
      show SS p e below m s₁ 43 #[iv p1, iv p2, iv p3, iv p4, iv zs, iv fr, .unset, .val (.long c1), .second, .unset, .unset, .unset, .unset] [] _
      refine XS.lload X0.here hx rfl (hb hby at_43) rfl ?_
      show SS p e below m s₁ 45 #[iv p1, iv p2, iv p3, iv p4, iv zs, iv fr, .unset, .val (.long c1), .second, .unset, .unset, .unset, .unset] [(.long c1)] _
      refine XS.lconst X0.here hx rfl (hb hby at_45) ?_
      show SS p e below m s₁ 46 #[iv p1, iv p2, iv p3, iv p4, iv zs, iv fr, .unset, .val (.long c1), .second, .unset, .unset, .unset, .unset] [(.long (0 : Int64)), (.long c1)] _
      refine XS.lcmp X0.here hx rfl (hb hby at_46) rfl ?_
      show SS p e below m s₁ 47 #[iv p1, iv p2, iv p3, iv p4, iv zs, iv fr, .unset, .val (.long c1), .second, .unset, .unset, .unset, .unset] [(.int (lcmpW c1 (0 : Int64)))] _
      exact kk)
    by_cases hc77 : (lcmpW c1 (0 : Int64)) < (0 : Int32)
    · have pre78 : ∀ t, SS p e below m s₁ 56 #[iv p1, iv p2, iv p3, iv p4, iv zs, iv fr, .unset, .val (.long c1), .second, .unset, .unset, .unset, .unset] [(.long (c1 + (zs.toInt64)))] t → B t := fun t kk => pre76 t (by
        refine XS.ifNo X0.here hx rfl (hb hby at_47) rfl ((if0 _ _).trans (tlt hc77).2.1) ?_
        show SS p e below m s₁ 50 #[iv p1, iv p2, iv p3, iv p4, iv zs, iv fr, .unset, .val (.long c1), .second, .unset, .unset, .unset, .unset] [] _
        refine XS.lload X0.here hx rfl (hb hby at_50) rfl ?_
        show SS p e below m s₁ 52 #[iv p1, iv p2, iv p3, iv p4, iv zs, iv fr, .unset, .val (.long c1), .second, .unset, .unset, .unset, .unset] [(.long c1)] _
        refine XS.iload X0.here hx rfl (hb hby at_52) rfl ?_
        show SS p e below m s₁ 54 #[iv p1, iv p2, iv p3, iv p4, iv zs, iv fr, .unset, .val (.long c1), .second, .unset, .unset, .unset, .unset] [(.int zs), (.long c1)] _
        refine XS.i2l X0.here hx rfl (hb hby at_54) rfl ?_
        show SS p e below m s₁ 55 #[iv p1, iv p2, iv p3, iv p4, iv zs, iv fr, .unset, .val (.long c1), .second, .unset, .unset, .unset, .unset] [(.long (zs.toInt64)), (.long c1)] _
        refine XS.ladd X0.here hx rfl (hb hby at_55) rfl ?_
        show SS p e below m s₁ 56 #[iv p1, iv p2, iv p3, iv p4, iv zs, iv fr, .unset, .val (.long c1), .second, .unset, .unset, .unset, .unset] [(.long (c1 + (zs.toInt64)))] _
        exact kk)
      obtain ⟨c2, g_c2⟩ : ∃ z, z = (c1 + (zs.toInt64)) := ⟨_, rfl⟩
      rw [← g_c2] at pre78
      have kc2 : c2.toInt = c1.toInt + zs.toInt ∧ c1.toInt < 0 := by
        have q := (lw_lt c1 (0 : Int64)).mp hc77
        rw [Int64.lt_iff_toInt_lt] at q
        have L0 : (0 : Int64).toInt = 0 := by decide
        have a1 := c_ladd c1 (zs.toInt64)
        have rr := rng64 c2
        have rz := rng32 zs
        rw [c_i2l] at a1
        rw [← g_c2] at a1
        omega
      have pre79 : ∀ t, SS p e below m s₁ 64 #[iv p1, iv p2, iv p3, iv p4, iv zs, iv fr, .unset, .val (.long c2), .second, .unset, .unset, .unset, .unset] [(.int (lcmpW c2 (zs.toInt64)))] t → B t := fun t kk => pre78 t (by
        refine XS.lstore X0.here hx rfl (hb hby at_56) rfl (l' := #[iv p1, iv p2, iv p3, iv p4, iv zs, iv fr, .unset, .val (.long c2), .second, .unset, .unset, .unset, .unset]) rfl ?_
        show SS p e below m s₁ 58 #[iv p1, iv p2, iv p3, iv p4, iv zs, iv fr, .unset, .val (.long c2), .second, .unset, .unset, .unset, .unset] [] _
        refine XS.lload X0.here hx rfl (hb hby at_58) rfl ?_
        show SS p e below m s₁ 60 #[iv p1, iv p2, iv p3, iv p4, iv zs, iv fr, .unset, .val (.long c2), .second, .unset, .unset, .unset, .unset] [(.long c2)] _
        refine XS.iload X0.here hx rfl (hb hby at_60) rfl ?_
        show SS p e below m s₁ 62 #[iv p1, iv p2, iv p3, iv p4, iv zs, iv fr, .unset, .val (.long c2), .second, .unset, .unset, .unset, .unset] [(.int zs), (.long c2)] _
        refine XS.i2l X0.here hx rfl (hb hby at_62) rfl ?_
        show SS p e below m s₁ 63 #[iv p1, iv p2, iv p3, iv p4, iv zs, iv fr, .unset, .val (.long c2), .second, .unset, .unset, .unset, .unset] [(.long (zs.toInt64)), (.long c2)] _
        refine XS.lcmp X0.here hx rfl (hb hby at_63) rfl ?_
        show SS p e below m s₁ 64 #[iv p1, iv p2, iv p3, iv p4, iv zs, iv fr, .unset, .val (.long c2), .second, .unset, .unset, .unset, .unset] [(.int (lcmpW c2 (zs.toInt64)))] _
        exact kk)
      by_cases hc80 : (lcmpW c2 (zs.toInt64)) < (0 : Int32)
      · have pre81 : ∀ t, SS p e below m s₁ 78 #[iv p1, iv p2, iv p3, iv p4, iv zs, iv fr, .unset, .val (.long c2), .second, .unset, .unset, .unset, .unset] [(.int (c2.toInt32))] t → B t := fun t kk => pre79 t (by
          refine XS.ifYes X0.here hx rfl (pc0 := 64) (pc' := 75) rfl (hb hby at_64) rfl ((if0 _ _).trans (tlt hc80).1) (by decide) (by decide) ?_
          show SS p e below m s₁ 75 #[iv p1, iv p2, iv p3, iv p4, iv zs, iv fr, .unset, .val (.long c2), .second, .unset, .unset, .unset, .unset] [] _
          refine XS.lload X0.here hx rfl (hb hby at_75) rfl ?_
          show SS p e below m s₁ 77 #[iv p1, iv p2, iv p3, iv p4, iv zs, iv fr, .unset, .val (.long c2), .second, .unset, .unset, .unset, .unset] [(.long c2)] _
          refine XS.l2i X0.here hx rfl (hb hby at_77) rfl ?_
          show SS p e below m s₁ 78 #[iv p1, iv p2, iv p3, iv p4, iv zs, iv fr, .unset, .val (.long c2), .second, .unset, .unset, .unset, .unset] [(.int (c2.toInt32))] _
          exact kk)
        obtain ⟨to, g_to⟩ : ∃ z, z = (c2.toInt32) := ⟨_, rfl⟩
        rw [← g_to] at pre81
        have hto : 0 ≤ to.toInt ∧ to.toInt < zs.toInt := by
          have q1 := (lw_lt c1 (0 : Int64)).mp hc77
          rw [Int64.lt_iff_toInt_lt] at q1
          have q2 := (lw_lt c2 (zs.toInt64)).mp hc80
          rw [Int64.lt_iff_toInt_lt, c_i2l] at q2
          have L0 : (0 : Int64).toInt = 0 := by decide
          have a1 := c_l2i c2
          rw [← g_to] at a1
          have r1 := rng32 to
          have r2 := rng32 zs
          omega
        have pre82 : ∀ t, SS p e below m s₁ 99 #[iv p1, iv p2, iv p3, iv p4, iv zs, iv fr, iv to, .val (.long c2), .second, .unset, .unset, .unset, .unset] [(.long ((to.toInt64) - (fr.toInt64)))] t → B t := fun t kk => pre81 t (by
          refine XS.istore X0.here hx rfl (hb hby at_78) rfl (l' := #[iv p1, iv p2, iv p3, iv p4, iv zs, iv fr, iv to, .val (.long c2), .second, .unset, .unset, .unset, .unset]) rfl ?_
          show SS p e below m s₁ 80 #[iv p1, iv p2, iv p3, iv p4, iv zs, iv fr, iv to, .val (.long c2), .second, .unset, .unset, .unset, .unset] [] _
          refine XS.goto X0.here hx rfl (pc0 := 80) (pc' := 92) rfl (hb hby at_80) (by decide) (by decide) ?_
          show SS p e below m s₁ 92 #[iv p1, iv p2, iv p3, iv p4, iv zs, iv fr, iv to, .val (.long c2), .second, .unset, .unset, .unset, .unset] [] _
          refine XS.iload X0.here hx rfl (hb hby at_92) rfl ?_
          show SS p e below m s₁ 94 #[iv p1, iv p2, iv p3, iv p4, iv zs, iv fr, iv to, .val (.long c2), .second, .unset, .unset, .unset, .unset] [(.int to)] _
          refine XS.i2l X0.here hx rfl (hb hby at_94) rfl ?_
          show SS p e below m s₁ 95 #[iv p1, iv p2, iv p3, iv p4, iv zs, iv fr, iv to, .val (.long c2), .second, .unset, .unset, .unset, .unset] [(.long (to.toInt64))] _
          refine XS.iload X0.here hx rfl (hb hby at_95) rfl ?_
          show SS p e below m s₁ 97 #[iv p1, iv p2, iv p3, iv p4, iv zs, iv fr, iv to, .val (.long c2), .second, .unset, .unset, .unset, .unset] [(.int fr), (.long (to.toInt64))] _
          refine XS.i2l X0.here hx rfl (hb hby at_97) rfl ?_
          show SS p e below m s₁ 98 #[iv p1, iv p2, iv p3, iv p4, iv zs, iv fr, iv to, .val (.long c2), .second, .unset, .unset, .unset, .unset] [(.long (fr.toInt64)), (.long (to.toInt64))] _
          refine XS.lsub X0.here hx rfl (hb hby at_98) rfl ?_
          show SS p e below m s₁ 99 #[iv p1, iv p2, iv p3, iv p4, iv zs, iv fr, iv to, .val (.long c2), .second, .unset, .unset, .unset, .unset] [(.long ((to.toInt64) - (fr.toInt64)))] _
          exact kk)
        obtain ⟨dd, g_dd⟩ : ∃ z, z = ((to.toInt64) - (fr.toInt64)) := ⟨_, rfl⟩
        rw [← g_dd] at pre82
        have hdd : dd.toInt = to.toInt - fr.toInt := by
          have a1 := c_lsub (to.toInt64) (fr.toInt64)
          rw [c_i2l, c_i2l, ← g_dd] at a1
          have r := rng64 dd
          have r2 := rng32 zs
          omega
        have pre83 : ∀ t, SS p e below m s₁ 106 #[iv p1, iv p2, iv p3, iv p4, iv zs, iv fr, iv to, .val (.long dd), .second, .unset, .unset, .unset, .unset] [(.long ((zs.toInt64) - (1 : Int64)))] t → B t := fun t kk => pre82 t (by
          refine XS.lstore X0.here hx rfl (hb hby at_99) rfl (l' := #[iv p1, iv p2, iv p3, iv p4, iv zs, iv fr, iv to, .val (.long dd), .second, .unset, .unset, .unset, .unset]) rfl ?_
          show SS p e below m s₁ 101 #[iv p1, iv p2, iv p3, iv p4, iv zs, iv fr, iv to, .val (.long dd), .second, .unset, .unset, .unset, .unset] [] _
          refine XS.iload X0.here hx rfl (hb hby at_101) rfl ?_
          show SS p e below m s₁ 103 #[iv p1, iv p2, iv p3, iv p4, iv zs, iv fr, iv to, .val (.long dd), .second, .unset, .unset, .unset, .unset] [(.int zs)] _
          refine XS.i2l X0.here hx rfl (hb hby at_103) rfl ?_
          show SS p e below m s₁ 104 #[iv p1, iv p2, iv p3, iv p4, iv zs, iv fr, iv to, .val (.long dd), .second, .unset, .unset, .unset, .unset] [(.long (zs.toInt64))] _
          refine XS.lconst X0.here hx rfl (hb hby at_104) ?_
          show SS p e below m s₁ 105 #[iv p1, iv p2, iv p3, iv p4, iv zs, iv fr, iv to, .val (.long dd), .second, .unset, .unset, .unset, .unset] [(.long (1 : Int64)), (.long (zs.toInt64))] _
          refine XS.lsub X0.here hx rfl (hb hby at_105) rfl ?_
          show SS p e below m s₁ 106 #[iv p1, iv p2, iv p3, iv p4, iv zs, iv fr, iv to, .val (.long dd), .second, .unset, .unset, .unset, .unset] [(.long ((zs.toInt64) - (1 : Int64)))] _
          exact kk)
        obtain ⟨la, g_la⟩ : ∃ z, z = ((zs.toInt64) - (1 : Int64)) := ⟨_, rfl⟩
        rw [← g_la] at pre83
        have hla : la.toInt = zs.toInt - 1 ∧ (-la).toInt = 1 - zs.toInt := by
          have a1 := c_lsub (zs.toInt64) (1 : Int64)
          have L1 : (1 : Int64).toInt = 1 := by decide
          rw [c_i2l, ← g_la] at a1
          have a2 := c_lneg la
          have r := rng64 la
          have r3 := rng64 (-la)
          have r2 := rng32 zs
          omega
        have pre84 : ∀ t, SS p e below m s₁ 112 #[iv p1, iv p2, iv p3, iv p4, iv zs, iv fr, iv to, .val (.long dd), .second, .val (.long la), .second, .unset, .unset] [(.int (lcmpW dd (1 : Int64)))] t → B t := fun t kk => pre83 t (by
          refine XS.lstore X0.here hx rfl (hb hby at_106) rfl (l' := #[iv p1, iv p2, iv p3, iv p4, iv zs, iv fr, iv to, .val (.long dd), .second, .val (.long la), .second, .unset, .unset]) rfl ?_
          show SS p e below m s₁ 108 #[iv p1, iv p2, iv p3, iv p4, iv zs, iv fr, iv to, .val (.long dd), .second, .val (.long la), .second, .unset, .unset] [] _
          refine XS.lload X0.here hx rfl (hb hby at_108) rfl ?_
          show SS p e below m s₁ 110 #[iv p1, iv p2, iv p3, iv p4, iv zs, iv fr, iv to, .val (.long dd), .second, .val (.long la), .second, .unset, .unset] [(.long dd)] _
          refine XS.lconst X0.here hx rfl (hb hby at_110) ?_
          show SS p e below m s₁ 111 #[iv p1, iv p2, iv p3, iv p4, iv zs, iv fr, iv to, .val (.long dd), .second, .val (.long la), .second, .unset, .unset] [(.long (1 : Int64)), (.long dd)] _
          refine XS.lcmp X0.here hx rfl (hb hby at_111) rfl ?_
          show SS p e below m s₁ 112 #[iv p1, iv p2, iv p3, iv p4, iv zs, iv fr, iv to, .val (.long dd), .second, .val (.long la), .second, .unset, .unset] [(.int (lcmpW dd (1 : Int64)))] _
          exact kk)
        by_cases hc85 : (lcmpW dd (1 : Int64)) = (0 : Int32)
        · have pre86 : ∀ t, SS p e below m s₁ 148 #[iv p1, iv p2, iv p3, iv p4, iv zs, iv fr, iv to, .val (.long dd), .second, .val (.long la), .second, iv (1 : Int32), .unset] [] t → B t := fun t kk => pre84 t (by
            refine XS.ifYes X0.here hx rfl (pc0 := 112) (pc' := 141) rfl (hb hby at_112) rfl ((if0 _ _).trans (teq hc85).1) (by decide) (by decide) ?_
            show SS p e below m s₁ 141 #[iv p1, iv p2, iv p3, iv p4, iv zs, iv fr, iv to, .val (.long dd), .second, .val (.long la), .second, .unset, .unset] [] _
            refine XS.iconst X0.here hx rfl (hb hby at_141) ?_
            show SS p e below m s₁ 142 #[iv p1, iv p2, iv p3, iv p4, iv zs, iv fr, iv to, .val (.long dd), .second, .val (.long la), .second, .unset, .unset] [(.int (1 : Int32))] _
            refine XS.goto X0.here hx rfl (pc0 := 142) (pc' := 146) rfl (hb hby at_142) (by decide) (by decide) ?_
            show SS p e below m s₁ 146 #[iv p1, iv p2, iv p3, iv p4, iv zs, iv fr, iv to, .val (.long dd), .second, .val (.long la), .second, .unset, .unset] [(.int (1 : Int32))] _
            refine XS.istore X0.here hx rfl (hb hby at_146) rfl (l' := #[iv p1, iv p2, iv p3, iv p4, iv zs, iv fr, iv to, .val (.long dd), .second, .val (.long la), .second, iv (1 : Int32), .unset]) rfl ?_
            show SS p e below m s₁ 148 #[iv p1, iv p2, iv p3, iv p4, iv zs, iv fr, iv to, .val (.long dd), .second, .val (.long la), .second, iv (1 : Int32), .unset] [] _
            exact kk)
          obtain ⟨T87, h87, X87, e87, E87, A87, D87, -, st87⟩ := newO X0 hx hZ hown (hw _ (List.mem_of_getElem? (i := 4) rfl)) (hw _ (List.mem_of_getElem? (i := 5) rfl)) (hw _ (List.mem_of_getElem? (i := 6) rfl)) e0 (g := (mkF m 148 #[iv p1, iv p2, iv p3, iv p4, iv zs, iv fr, iv to, .val (.long dd), .second, .val (.long la), .second, iv (1 : Int32), .unset] [])) rfl (hb hby at_148) (by decide) (by decide)
          obtain ⟨b87, g87⟩ : ∃ z, z = h0.size := ⟨_, rfl⟩
          rw [← g87] at A87 D87 st87
          have g_b87 : n0 ≤ b87 := Nat.le_trans Z0 (Nat.le_of_eq g87.symm)
          have Z87 : n0 ≤ h87.size := Nat.le_trans Z0 E87.1
          have pre88 : ∀ t, SS p e below m T87 152 #[iv p1, iv p2, iv p3, iv p4, iv zs, iv fr, iv to, .val (.long dd), .second, .val (.long la), .second, iv (1 : Int32), .unset] [(.ref b87), (.ref b87)] t → B t := fun t kk => pre86 t (by
            refine st87 _ ?_
            show SS p e below m T87 151 #[iv p1, iv p2, iv p3, iv p4, iv zs, iv fr, iv to, .val (.long dd), .second, .val (.long la), .second, iv (1 : Int32), .unset] [(.ref b87)] _
            refine XS.dup X87.here hx rfl (hb hby at_151) rfl rfl ?_
            show SS p e below m T87 152 #[iv p1, iv p2, iv p3, iv p4, iv zs, iv fr, iv to, .val (.long dd), .second, .val (.long la), .second, iv (1 : Int32), .unset] [(.ref b87), (.ref b87)] _
            exact kk)
          obtain ⟨_, _, ⟨T89, L89, k89, n89⟩, -, X89, ⟨Lc89, hQ89, l89, y89, z89⟩, st89⟩ := X87.specialBack hx (y := (⟨"com/example/hermit_crab/hermitcrab/sim/Topology$Ring", "<init>", "()V"⟩ : MethodName)) rfl hown (mvT hZ (hw _ (List.mem_of_getElem? (i := 7) rfl))) (mvT hZ (hw _ (List.mem_of_getElem? (i := 8) rfl))) (mvT hZ (hw _ (List.mem_of_getElem? (i := 9) rfl))) (by decide) (backOf (W := 1) (rm1 l Z a0 hw [] b87 h87 n0 Z87 ) hZ (hw _ (List.mem_of_getElem? (i := 9) rfl)) (hw _ (List.mem_of_getElem? (i := 6) rfl)) (by decide) (by decide)) (g := (mkF m 152 #[iv p1, iv p2, iv p3, iv p4, iv zs, iv fr, iv to, .val (.long dd), .second, .val (.long la), .second, iv (1 : Int32), .unset] [(.ref b87), (.ref b87)])) rfl (by rw [hml]; rfl) (Steps.refl _) (a := b87) (argsL := []) (rest := [(.ref b87)]) (lenOf pd_0 rfl) rfl (by show 2 * 0 + _ ≤ _; exact Nat.le_of_eq rfl) (hb hby at_152) (fun _ _ => ⟨rfl, e87, (by decide : 1 + 0 ≤ _), (by decide : 0 + 0 ≤ _)⟩)
          dsimp only [Pt.U, Pt.locs, Pt.cells, Pt.slots] at X89 l89 y89 z89 st89 hQ89
          subst l89 y89 z89
          obtain ⟨rfl, N89q, e89⟩ := hQ89
          have N89 := Fr.app N0 N89q
          have pre90 : ∀ t, SS p e below m T89 165 #[iv p1, iv p2, iv p3, iv p4, iv zs, iv fr, iv to, .val (.long dd), .second, .val (.long la), .second, iv (1 : Int32), rv b87] [(.int zs), (.int to), (.int fr), (.ref b87)] t → B t := fun t kk => pre88 t (by
            refine st89.trans ?_
            show SS p e below m T89 155 #[iv p1, iv p2, iv p3, iv p4, iv zs, iv fr, iv to, .val (.long dd), .second, .val (.long la), .second, iv (1 : Int32), .unset] [(.ref b87)] _
            refine XS.astore X89.here hx rfl (hb hby at_155) rfl rfl (l' := #[iv p1, iv p2, iv p3, iv p4, iv zs, iv fr, iv to, .val (.long dd), .second, .val (.long la), .second, iv (1 : Int32), rv b87]) rfl ?_
            show SS p e below m T89 157 #[iv p1, iv p2, iv p3, iv p4, iv zs, iv fr, iv to, .val (.long dd), .second, .val (.long la), .second, iv (1 : Int32), rv b87] [] _
            refine XS.aload X89.here hx rfl (hb hby at_157) rfl rfl ?_
            show SS p e below m T89 159 #[iv p1, iv p2, iv p3, iv p4, iv zs, iv fr, iv to, .val (.long dd), .second, .val (.long la), .second, iv (1 : Int32), rv b87] [(.ref b87)] _
            refine XS.iload X89.here hx rfl (hb hby at_159) rfl ?_
            show SS p e below m T89 161 #[iv p1, iv p2, iv p3, iv p4, iv zs, iv fr, iv to, .val (.long dd), .second, .val (.long la), .second, iv (1 : Int32), rv b87] [(.int fr), (.ref b87)] _
            refine XS.iload X89.here hx rfl (hb hby at_161) rfl ?_
            show SS p e below m T89 163 #[iv p1, iv p2, iv p3, iv p4, iv zs, iv fr, iv to, .val (.long dd), .second, .val (.long la), .second, iv (1 : Int32), rv b87] [(.int to), (.int fr), (.ref b87)] _
            refine XS.iload X89.here hx rfl (hb hby at_163) rfl ?_
            show SS p e below m T89 165 #[iv p1, iv p2, iv p3, iv p4, iv zs, iv fr, iv to, .val (.long dd), .second, .val (.long la), .second, iv (1 : Int32), rv b87] [(.int zs), (.int to), (.int fr), (.ref b87)] _
            exact kk)
          obtain ⟨cq91, kq91, q91a, q91b, q91c⟩ := isOf hZ e89 A87
          obtain ⟨_, _, ⟨T91, L91, k91, n91⟩, -, X91, ⟨Lc91, hQ91, l91, y91, z91⟩, st91⟩ := X89.virtualBack hx (y := (⟨"com/example/hermit_crab/hermitcrab/sim/Topology$Ring", "links", "(III)Z"⟩ : MethodName)) (z := (⟨"com/example/hermit_crab/hermitcrab/sim/Topology$Ring", "links", "(III)Z"⟩ : MethodName)) hown (mvT hZ (hw _ (List.mem_of_getElem? (i := 18) rfl))) (mvT hZ (hw _ (List.mem_of_getElem? (i := 19) rfl))) (notFace_of_selects (args := #[]) (mvT hZ (hw _ (List.mem_of_getElem? (i := 21) rfl)))) (mvT hZ (hw _ (List.mem_of_getElem? (i := 21) rfl))) (mvT hZ (hw _ (List.mem_of_getElem? (i := 20) rfl))) (by decide) (backOf (W := 0) (rm4 l Z a0 hw [] b87 fr to zs h87 n0 Z87 hnz0) hZ (hw _ (List.mem_of_getElem? (i := 22) rfl)) (hw _ (List.mem_of_getElem? (i := 6) rfl)) (by decide) (by decide)) q91a q91c (g := (mkF m 165 #[iv p1, iv p2, iv p3, iv p4, iv zs, iv fr, iv to, .val (.long dd), .second, .val (.long la), .second, iv (1 : Int32), rv b87] [(.int zs), (.int to), (.int fr), (.ref b87)])) rfl (by rw [hml]; rfl) (Steps.refl _) (argsL := [(.int fr), (.int to), (.int zs)]) (rest := []) (lenOf pd_1 rfl) rfl (by show 2 * 0 + _ ≤ _; exact Nat.le_of_eq rfl) (hb hby at_165) (fun _ _ => ⟨rfl, e89, (by decide : 1 + 0 ≤ _), (by decide : 0 + 0 ≤ _)⟩)
          dsimp only [Pt.U, Pt.locs, Pt.cells, Pt.slots] at X91 l91 y91 z91 st91 hQ91
          subst l91 y91 z91
          obtain ⟨rfl, N91q, e91⟩ := hQ91
          have N91 := Fr.app N89 N91q
          have pre93 : ∀ t, SS p e below m T91 170 #[iv p1, iv p2, iv p3, iv p4, iv zs, iv fr, iv to, .val (.long dd), .second, .val (.long la), .second, iv (1 : Int32), rv b87] [(.int (1 : Int32)), (.int (f4 fr to zs))] t → B t := fun t kk => pre90 t (by
            refine st91.trans ?_
            show SS p e below m T91 168 #[iv p1, iv p2, iv p3, iv p4, iv zs, iv fr, iv to, .val (.long dd), .second, .val (.long la), .second, iv (1 : Int32), rv b87] [(.int (f4 fr to zs))] _
            refine XS.iload X91.here hx rfl (hb hby at_168) rfl ?_
            show SS p e below m T91 170 #[iv p1, iv p2, iv p3, iv p4, iv zs, iv fr, iv to, .val (.long dd), .second, .val (.long la), .second, iv (1 : Int32), rv b87] [(.int (1 : Int32)), (.int (f4 fr to zs))] _
            exact kk)
          have hq94 : (f4 fr to zs) = (1 : Int32) := by
            rw [own_links _ _ _ hz hfr hto]
            have u92 := (lw_eq dd (1 : Int64)).mp hc85
            rw [← Int64.toInt_inj] at u92
            have J1 : (1 : Int64).toInt = 1 := by decide
            have Jm : (-1 : Int64).toInt = -1 := by decide
            rw [if_pos (by omega)]
          have pre95 : ∀ t, SS p e below m T91 178 #[iv p1, iv p2, iv p3, iv p4, iv zs, iv fr, iv to, .val (.long dd), .second, .val (.long la), .second, iv (1 : Int32), rv b87] [(.int (1 : Int32))] t → B t := fun t kk => pre93 t (by
            refine XS.icmpNo X91.here hx rfl (hb hby at_170) rfl (teq hq94).2 ?_
            show SS p e below m T91 173 #[iv p1, iv p2, iv p3, iv p4, iv zs, iv fr, iv to, .val (.long dd), .second, .val (.long la), .second, iv (1 : Int32), rv b87] [] _
            refine XS.iconst X91.here hx rfl (hb hby at_173) ?_
            show SS p e below m T91 174 #[iv p1, iv p2, iv p3, iv p4, iv zs, iv fr, iv to, .val (.long dd), .second, .val (.long la), .second, iv (1 : Int32), rv b87] [(.int (1 : Int32))] _
            refine XS.goto X91.here hx rfl (pc0 := 174) (pc' := 178) rfl (hb hby at_174) (by decide) (by decide) ?_
            show SS p e below m T91 178 #[iv p1, iv p2, iv p3, iv p4, iv zs, iv fr, iv to, .val (.long dd), .second, .val (.long la), .second, iv (1 : Int32), rv b87] [(.int (1 : Int32))] _
            exact kk)
          obtain ⟨fs, hr, hrun, hended, hW, hsame⟩ := X91.leave (v := some (.int (1 : Int32))) (fun h => by rw [Bd.returns] at h; cases h)
          refine ⟨_, _, hB _ (pre95 _ ?_), hrun, hended, _, _, rfl, ?_, ⟨_, rfl⟩, hW, hsame.mono (by decide) (by decide)⟩
          · exact retN X91 hx (t := .boolean) Bd.returns (by simp) (hb hby at_178) hr
          · exact ⟨rfl, N91⟩
        · have pre96 : ∀ t, SS p e below m s₁ 121 #[iv p1, iv p2, iv p3, iv p4, iv zs, iv fr, iv to, .val (.long dd), .second, .val (.long la), .second, .unset, .unset] [(.int (lcmpW dd (-1 : Int64)))] t → B t := fun t kk => pre84 t (by
            refine XS.ifNo X0.here hx rfl (hb hby at_112) rfl ((if0 _ _).trans (feq hc85).1) ?_
            show SS p e below m s₁ 115 #[iv p1, iv p2, iv p3, iv p4, iv zs, iv fr, iv to, .val (.long dd), .second, .val (.long la), .second, .unset, .unset] [] _
            refine XS.lload X0.here hx rfl (hb hby at_115) rfl ?_
            show SS p e below m s₁ 117 #[iv p1, iv p2, iv p3, iv p4, iv zs, iv fr, iv to, .val (.long dd), .second, .val (.long la), .second, .unset, .unset] [(.long dd)] _
            refine X0.ldc2Long hx hown (mvT hZ (hw _ (List.mem_of_getElem? (i := 3) rfl))) (g := (mkF m 117 #[iv p1, iv p2, iv p3, iv p4, iv zs, iv fr, iv to, .val (.long dd), .second, .val (.long la), .second, .unset, .unset] [(.long dd)])) rfl (hb hby at_117) _ ?_
            show SS p e below m s₁ 120 #[iv p1, iv p2, iv p3, iv p4, iv zs, iv fr, iv to, .val (.long dd), .second, .val (.long la), .second, .unset, .unset] [(.long (-1 : Int64)), (.long dd)] _
            refine XS.lcmp X0.here hx rfl (hb hby at_120) rfl ?_
            show SS p e below m s₁ 121 #[iv p1, iv p2, iv p3, iv p4, iv zs, iv fr, iv to, .val (.long dd), .second, .val (.long la), .second, .unset, .unset] [(.int (lcmpW dd (-1 : Int64)))] _
            exact kk)
          by_cases hc97 : (lcmpW dd (-1 : Int64)) = (0 : Int32)
          · have pre98 : ∀ t, SS p e below m s₁ 148 #[iv p1, iv p2, iv p3, iv p4, iv zs, iv fr, iv to, .val (.long dd), .second, .val (.long la), .second, iv (1 : Int32), .unset] [] t → B t := fun t kk => pre96 t (by
              refine XS.ifYes X0.here hx rfl (pc0 := 121) (pc' := 141) rfl (hb hby at_121) rfl ((if0 _ _).trans (teq hc97).1) (by decide) (by decide) ?_
              show SS p e below m s₁ 141 #[iv p1, iv p2, iv p3, iv p4, iv zs, iv fr, iv to, .val (.long dd), .second, .val (.long la), .second, .unset, .unset] [] _
              refine XS.iconst X0.here hx rfl (hb hby at_141) ?_
              show SS p e below m s₁ 142 #[iv p1, iv p2, iv p3, iv p4, iv zs, iv fr, iv to, .val (.long dd), .second, .val (.long la), .second, .unset, .unset] [(.int (1 : Int32))] _
              refine XS.goto X0.here hx rfl (pc0 := 142) (pc' := 146) rfl (hb hby at_142) (by decide) (by decide) ?_
              show SS p e below m s₁ 146 #[iv p1, iv p2, iv p3, iv p4, iv zs, iv fr, iv to, .val (.long dd), .second, .val (.long la), .second, .unset, .unset] [(.int (1 : Int32))] _
              refine XS.istore X0.here hx rfl (hb hby at_146) rfl (l' := #[iv p1, iv p2, iv p3, iv p4, iv zs, iv fr, iv to, .val (.long dd), .second, .val (.long la), .second, iv (1 : Int32), .unset]) rfl ?_
              show SS p e below m s₁ 148 #[iv p1, iv p2, iv p3, iv p4, iv zs, iv fr, iv to, .val (.long dd), .second, .val (.long la), .second, iv (1 : Int32), .unset] [] _
              exact kk)
            obtain ⟨T99, h99, X99, e99, E99, A99, D99, -, st99⟩ := newO X0 hx hZ hown (hw _ (List.mem_of_getElem? (i := 4) rfl)) (hw _ (List.mem_of_getElem? (i := 5) rfl)) (hw _ (List.mem_of_getElem? (i := 6) rfl)) e0 (g := (mkF m 148 #[iv p1, iv p2, iv p3, iv p4, iv zs, iv fr, iv to, .val (.long dd), .second, .val (.long la), .second, iv (1 : Int32), .unset] [])) rfl (hb hby at_148) (by decide) (by decide)
            obtain ⟨b99, g99⟩ : ∃ z, z = h0.size := ⟨_, rfl⟩
            rw [← g99] at A99 D99 st99
            have g_b99 : n0 ≤ b99 := Nat.le_trans Z0 (Nat.le_of_eq g99.symm)
            have Z99 : n0 ≤ h99.size := Nat.le_trans Z0 E99.1
            have pre100 : ∀ t, SS p e below m T99 152 #[iv p1, iv p2, iv p3, iv p4, iv zs, iv fr, iv to, .val (.long dd), .second, .val (.long la), .second, iv (1 : Int32), .unset] [(.ref b99), (.ref b99)] t → B t := fun t kk => pre98 t (by
              refine st99 _ ?_
              show SS p e below m T99 151 #[iv p1, iv p2, iv p3, iv p4, iv zs, iv fr, iv to, .val (.long dd), .second, .val (.long la), .second, iv (1 : Int32), .unset] [(.ref b99)] _
              refine XS.dup X99.here hx rfl (hb hby at_151) rfl rfl ?_
              show SS p e below m T99 152 #[iv p1, iv p2, iv p3, iv p4, iv zs, iv fr, iv to, .val (.long dd), .second, .val (.long la), .second, iv (1 : Int32), .unset] [(.ref b99), (.ref b99)] _
              exact kk)
            obtain ⟨_, _, ⟨T101, L101, k101, n101⟩, -, X101, ⟨Lc101, hQ101, l101, y101, z101⟩, st101⟩ := X99.specialBack hx (y := (⟨"com/example/hermit_crab/hermitcrab/sim/Topology$Ring", "<init>", "()V"⟩ : MethodName)) rfl hown (mvT hZ (hw _ (List.mem_of_getElem? (i := 7) rfl))) (mvT hZ (hw _ (List.mem_of_getElem? (i := 8) rfl))) (mvT hZ (hw _ (List.mem_of_getElem? (i := 9) rfl))) (by decide) (backOf (W := 1) (rm1 l Z a0 hw [] b99 h99 n0 Z99 ) hZ (hw _ (List.mem_of_getElem? (i := 9) rfl)) (hw _ (List.mem_of_getElem? (i := 6) rfl)) (by decide) (by decide)) (g := (mkF m 152 #[iv p1, iv p2, iv p3, iv p4, iv zs, iv fr, iv to, .val (.long dd), .second, .val (.long la), .second, iv (1 : Int32), .unset] [(.ref b99), (.ref b99)])) rfl (by rw [hml]; rfl) (Steps.refl _) (a := b99) (argsL := []) (rest := [(.ref b99)]) (lenOf pd_0 rfl) rfl (by show 2 * 0 + _ ≤ _; exact Nat.le_of_eq rfl) (hb hby at_152) (fun _ _ => ⟨rfl, e99, (by decide : 1 + 0 ≤ _), (by decide : 0 + 0 ≤ _)⟩)
            dsimp only [Pt.U, Pt.locs, Pt.cells, Pt.slots] at X101 l101 y101 z101 st101 hQ101
            subst l101 y101 z101
            obtain ⟨rfl, N101q, e101⟩ := hQ101
            have N101 := Fr.app N0 N101q
            have pre102 : ∀ t, SS p e below m T101 165 #[iv p1, iv p2, iv p3, iv p4, iv zs, iv fr, iv to, .val (.long dd), .second, .val (.long la), .second, iv (1 : Int32), rv b99] [(.int zs), (.int to), (.int fr), (.ref b99)] t → B t := fun t kk => pre100 t (by
              refine st101.trans ?_
              show SS p e below m T101 155 #[iv p1, iv p2, iv p3, iv p4, iv zs, iv fr, iv to, .val (.long dd), .second, .val (.long la), .second, iv (1 : Int32), .unset] [(.ref b99)] _
              refine XS.astore X101.here hx rfl (hb hby at_155) rfl rfl (l' := #[iv p1, iv p2, iv p3, iv p4, iv zs, iv fr, iv to, .val (.long dd), .second, .val (.long la), .second, iv (1 : Int32), rv b99]) rfl ?_
              show SS p e below m T101 157 #[iv p1, iv p2, iv p3, iv p4, iv zs, iv fr, iv to, .val (.long dd), .second, .val (.long la), .second, iv (1 : Int32), rv b99] [] _
              refine XS.aload X101.here hx rfl (hb hby at_157) rfl rfl ?_
              show SS p e below m T101 159 #[iv p1, iv p2, iv p3, iv p4, iv zs, iv fr, iv to, .val (.long dd), .second, .val (.long la), .second, iv (1 : Int32), rv b99] [(.ref b99)] _
              refine XS.iload X101.here hx rfl (hb hby at_159) rfl ?_
              show SS p e below m T101 161 #[iv p1, iv p2, iv p3, iv p4, iv zs, iv fr, iv to, .val (.long dd), .second, .val (.long la), .second, iv (1 : Int32), rv b99] [(.int fr), (.ref b99)] _
              refine XS.iload X101.here hx rfl (hb hby at_161) rfl ?_
              show SS p e below m T101 163 #[iv p1, iv p2, iv p3, iv p4, iv zs, iv fr, iv to, .val (.long dd), .second, .val (.long la), .second, iv (1 : Int32), rv b99] [(.int to), (.int fr), (.ref b99)] _
              refine XS.iload X101.here hx rfl (hb hby at_163) rfl ?_
              show SS p e below m T101 165 #[iv p1, iv p2, iv p3, iv p4, iv zs, iv fr, iv to, .val (.long dd), .second, .val (.long la), .second, iv (1 : Int32), rv b99] [(.int zs), (.int to), (.int fr), (.ref b99)] _
              exact kk)
            obtain ⟨cq103, kq103, q103a, q103b, q103c⟩ := isOf hZ e101 A99
            obtain ⟨_, _, ⟨T103, L103, k103, n103⟩, -, X103, ⟨Lc103, hQ103, l103, y103, z103⟩, st103⟩ := X101.virtualBack hx (y := (⟨"com/example/hermit_crab/hermitcrab/sim/Topology$Ring", "links", "(III)Z"⟩ : MethodName)) (z := (⟨"com/example/hermit_crab/hermitcrab/sim/Topology$Ring", "links", "(III)Z"⟩ : MethodName)) hown (mvT hZ (hw _ (List.mem_of_getElem? (i := 18) rfl))) (mvT hZ (hw _ (List.mem_of_getElem? (i := 19) rfl))) (notFace_of_selects (args := #[]) (mvT hZ (hw _ (List.mem_of_getElem? (i := 21) rfl)))) (mvT hZ (hw _ (List.mem_of_getElem? (i := 21) rfl))) (mvT hZ (hw _ (List.mem_of_getElem? (i := 20) rfl))) (by decide) (backOf (W := 0) (rm4 l Z a0 hw [] b99 fr to zs h99 n0 Z99 hnz0) hZ (hw _ (List.mem_of_getElem? (i := 22) rfl)) (hw _ (List.mem_of_getElem? (i := 6) rfl)) (by decide) (by decide)) q103a q103c (g := (mkF m 165 #[iv p1, iv p2, iv p3, iv p4, iv zs, iv fr, iv to, .val (.long dd), .second, .val (.long la), .second, iv (1 : Int32), rv b99] [(.int zs), (.int to), (.int fr), (.ref b99)])) rfl (by rw [hml]; rfl) (Steps.refl _) (argsL := [(.int fr), (.int to), (.int zs)]) (rest := []) (lenOf pd_1 rfl) rfl (by show 2 * 0 + _ ≤ _; exact Nat.le_of_eq rfl) (hb hby at_165) (fun _ _ => ⟨rfl, e101, (by decide : 1 + 0 ≤ _), (by decide : 0 + 0 ≤ _)⟩)
            dsimp only [Pt.U, Pt.locs, Pt.cells, Pt.slots] at X103 l103 y103 z103 st103 hQ103
            subst l103 y103 z103
            obtain ⟨rfl, N103q, e103⟩ := hQ103
            have N103 := Fr.app N101 N103q
            have pre106 : ∀ t, SS p e below m T103 170 #[iv p1, iv p2, iv p3, iv p4, iv zs, iv fr, iv to, .val (.long dd), .second, .val (.long la), .second, iv (1 : Int32), rv b99] [(.int (1 : Int32)), (.int (f4 fr to zs))] t → B t := fun t kk => pre102 t (by
              refine st103.trans ?_
              show SS p e below m T103 168 #[iv p1, iv p2, iv p3, iv p4, iv zs, iv fr, iv to, .val (.long dd), .second, .val (.long la), .second, iv (1 : Int32), rv b99] [(.int (f4 fr to zs))] _
              refine XS.iload X103.here hx rfl (hb hby at_168) rfl ?_
              show SS p e below m T103 170 #[iv p1, iv p2, iv p3, iv p4, iv zs, iv fr, iv to, .val (.long dd), .second, .val (.long la), .second, iv (1 : Int32), rv b99] [(.int (1 : Int32)), (.int (f4 fr to zs))] _
              exact kk)
            have hq107 : (f4 fr to zs) = (1 : Int32) := by
              rw [own_links _ _ _ hz hfr hto]
              have u104 := mt (lw_eq dd (1 : Int64)).mpr hc85
              rw [← Int64.toInt_inj] at u104
              have u105 := (lw_eq dd (-1 : Int64)).mp hc97
              rw [← Int64.toInt_inj] at u105
              have J1 : (1 : Int64).toInt = 1 := by decide
              have Jm : (-1 : Int64).toInt = -1 := by decide
              rw [if_pos (by omega)]
            have pre108 : ∀ t, SS p e below m T103 178 #[iv p1, iv p2, iv p3, iv p4, iv zs, iv fr, iv to, .val (.long dd), .second, .val (.long la), .second, iv (1 : Int32), rv b99] [(.int (1 : Int32))] t → B t := fun t kk => pre106 t (by
              refine XS.icmpNo X103.here hx rfl (hb hby at_170) rfl (teq hq107).2 ?_
              show SS p e below m T103 173 #[iv p1, iv p2, iv p3, iv p4, iv zs, iv fr, iv to, .val (.long dd), .second, .val (.long la), .second, iv (1 : Int32), rv b99] [] _
              refine XS.iconst X103.here hx rfl (hb hby at_173) ?_
              show SS p e below m T103 174 #[iv p1, iv p2, iv p3, iv p4, iv zs, iv fr, iv to, .val (.long dd), .second, .val (.long la), .second, iv (1 : Int32), rv b99] [(.int (1 : Int32))] _
              refine XS.goto X103.here hx rfl (pc0 := 174) (pc' := 178) rfl (hb hby at_174) (by decide) (by decide) ?_
              show SS p e below m T103 178 #[iv p1, iv p2, iv p3, iv p4, iv zs, iv fr, iv to, .val (.long dd), .second, .val (.long la), .second, iv (1 : Int32), rv b99] [(.int (1 : Int32))] _
              exact kk)
            obtain ⟨fs, hr, hrun, hended, hW, hsame⟩ := X103.leave (v := some (.int (1 : Int32))) (fun h => by rw [Bd.returns] at h; cases h)
            refine ⟨_, _, hB _ (pre108 _ ?_), hrun, hended, _, _, rfl, ?_, ⟨_, rfl⟩, hW, hsame.mono (by decide) (by decide)⟩
            · exact retN X103 hx (t := .boolean) Bd.returns (by simp) (hb hby at_178) hr
            · exact ⟨rfl, N103⟩
          · have pre109 : ∀ t, SS p e below m s₁ 129 #[iv p1, iv p2, iv p3, iv p4, iv zs, iv fr, iv to, .val (.long dd), .second, .val (.long la), .second, .unset, .unset] [(.int (lcmpW dd la))] t → B t := fun t kk => pre96 t (by
              refine XS.ifNo X0.here hx rfl (hb hby at_121) rfl ((if0 _ _).trans (feq hc97).1) ?_
              show SS p e below m s₁ 124 #[iv p1, iv p2, iv p3, iv p4, iv zs, iv fr, iv to, .val (.long dd), .second, .val (.long la), .second, .unset, .unset] [] _
              refine XS.lload X0.here hx rfl (hb hby at_124) rfl ?_
              show SS p e below m s₁ 126 #[iv p1, iv p2, iv p3, iv p4, iv zs, iv fr, iv to, .val (.long dd), .second, .val (.long la), .second, .unset, .unset] [(.long dd)] _
              refine XS.lload X0.here hx rfl (hb hby at_126) rfl ?_
              show SS p e below m s₁ 128 #[iv p1, iv p2, iv p3, iv p4, iv zs, iv fr, iv to, .val (.long dd), .second, .val (.long la), .second, .unset, .unset] [(.long la), (.long dd)] _
              refine XS.lcmp X0.here hx rfl (hb hby at_128) rfl ?_
              show SS p e below m s₁ 129 #[iv p1, iv p2, iv p3, iv p4, iv zs, iv fr, iv to, .val (.long dd), .second, .val (.long la), .second, .unset, .unset] [(.int (lcmpW dd la))] _
              exact kk)
            by_cases hc110 : (lcmpW dd la) = (0 : Int32)
            · have pre111 : ∀ t, SS p e below m s₁ 148 #[iv p1, iv p2, iv p3, iv p4, iv zs, iv fr, iv to, .val (.long dd), .second, .val (.long la), .second, iv (1 : Int32), .unset] [] t → B t := fun t kk => pre109 t (by
                refine XS.ifYes X0.here hx rfl (pc0 := 129) (pc' := 141) rfl (hb hby at_129) rfl ((if0 _ _).trans (teq hc110).1) (by decide) (by decide) ?_
                show SS p e below m s₁ 141 #[iv p1, iv p2, iv p3, iv p4, iv zs, iv fr, iv to, .val (.long dd), .second, .val (.long la), .second, .unset, .unset] [] _
                refine XS.iconst X0.here hx rfl (hb hby at_141) ?_
                show SS p e below m s₁ 142 #[iv p1, iv p2, iv p3, iv p4, iv zs, iv fr, iv to, .val (.long dd), .second, .val (.long la), .second, .unset, .unset] [(.int (1 : Int32))] _
                refine XS.goto X0.here hx rfl (pc0 := 142) (pc' := 146) rfl (hb hby at_142) (by decide) (by decide) ?_
                show SS p e below m s₁ 146 #[iv p1, iv p2, iv p3, iv p4, iv zs, iv fr, iv to, .val (.long dd), .second, .val (.long la), .second, .unset, .unset] [(.int (1 : Int32))] _
                refine XS.istore X0.here hx rfl (hb hby at_146) rfl (l' := #[iv p1, iv p2, iv p3, iv p4, iv zs, iv fr, iv to, .val (.long dd), .second, .val (.long la), .second, iv (1 : Int32), .unset]) rfl ?_
                show SS p e below m s₁ 148 #[iv p1, iv p2, iv p3, iv p4, iv zs, iv fr, iv to, .val (.long dd), .second, .val (.long la), .second, iv (1 : Int32), .unset] [] _
                exact kk)
              obtain ⟨T112, h112, X112, e112, E112, A112, D112, -, st112⟩ := newO X0 hx hZ hown (hw _ (List.mem_of_getElem? (i := 4) rfl)) (hw _ (List.mem_of_getElem? (i := 5) rfl)) (hw _ (List.mem_of_getElem? (i := 6) rfl)) e0 (g := (mkF m 148 #[iv p1, iv p2, iv p3, iv p4, iv zs, iv fr, iv to, .val (.long dd), .second, .val (.long la), .second, iv (1 : Int32), .unset] [])) rfl (hb hby at_148) (by decide) (by decide)
              obtain ⟨b112, g112⟩ : ∃ z, z = h0.size := ⟨_, rfl⟩
              rw [← g112] at A112 D112 st112
              have g_b112 : n0 ≤ b112 := Nat.le_trans Z0 (Nat.le_of_eq g112.symm)
              have Z112 : n0 ≤ h112.size := Nat.le_trans Z0 E112.1
              have pre113 : ∀ t, SS p e below m T112 152 #[iv p1, iv p2, iv p3, iv p4, iv zs, iv fr, iv to, .val (.long dd), .second, .val (.long la), .second, iv (1 : Int32), .unset] [(.ref b112), (.ref b112)] t → B t := fun t kk => pre111 t (by
                refine st112 _ ?_
                show SS p e below m T112 151 #[iv p1, iv p2, iv p3, iv p4, iv zs, iv fr, iv to, .val (.long dd), .second, .val (.long la), .second, iv (1 : Int32), .unset] [(.ref b112)] _
                refine XS.dup X112.here hx rfl (hb hby at_151) rfl rfl ?_
                show SS p e below m T112 152 #[iv p1, iv p2, iv p3, iv p4, iv zs, iv fr, iv to, .val (.long dd), .second, .val (.long la), .second, iv (1 : Int32), .unset] [(.ref b112), (.ref b112)] _
                exact kk)
              obtain ⟨_, _, ⟨T114, L114, k114, n114⟩, -, X114, ⟨Lc114, hQ114, l114, y114, z114⟩, st114⟩ := X112.specialBack hx (y := (⟨"com/example/hermit_crab/hermitcrab/sim/Topology$Ring", "<init>", "()V"⟩ : MethodName)) rfl hown (mvT hZ (hw _ (List.mem_of_getElem? (i := 7) rfl))) (mvT hZ (hw _ (List.mem_of_getElem? (i := 8) rfl))) (mvT hZ (hw _ (List.mem_of_getElem? (i := 9) rfl))) (by decide) (backOf (W := 1) (rm1 l Z a0 hw [] b112 h112 n0 Z112 ) hZ (hw _ (List.mem_of_getElem? (i := 9) rfl)) (hw _ (List.mem_of_getElem? (i := 6) rfl)) (by decide) (by decide)) (g := (mkF m 152 #[iv p1, iv p2, iv p3, iv p4, iv zs, iv fr, iv to, .val (.long dd), .second, .val (.long la), .second, iv (1 : Int32), .unset] [(.ref b112), (.ref b112)])) rfl (by rw [hml]; rfl) (Steps.refl _) (a := b112) (argsL := []) (rest := [(.ref b112)]) (lenOf pd_0 rfl) rfl (by show 2 * 0 + _ ≤ _; exact Nat.le_of_eq rfl) (hb hby at_152) (fun _ _ => ⟨rfl, e112, (by decide : 1 + 0 ≤ _), (by decide : 0 + 0 ≤ _)⟩)
              dsimp only [Pt.U, Pt.locs, Pt.cells, Pt.slots] at X114 l114 y114 z114 st114 hQ114
              subst l114 y114 z114
              obtain ⟨rfl, N114q, e114⟩ := hQ114
              have N114 := Fr.app N0 N114q
              have pre115 : ∀ t, SS p e below m T114 165 #[iv p1, iv p2, iv p3, iv p4, iv zs, iv fr, iv to, .val (.long dd), .second, .val (.long la), .second, iv (1 : Int32), rv b112] [(.int zs), (.int to), (.int fr), (.ref b112)] t → B t := fun t kk => pre113 t (by
                refine st114.trans ?_
                show SS p e below m T114 155 #[iv p1, iv p2, iv p3, iv p4, iv zs, iv fr, iv to, .val (.long dd), .second, .val (.long la), .second, iv (1 : Int32), .unset] [(.ref b112)] _
                refine XS.astore X114.here hx rfl (hb hby at_155) rfl rfl (l' := #[iv p1, iv p2, iv p3, iv p4, iv zs, iv fr, iv to, .val (.long dd), .second, .val (.long la), .second, iv (1 : Int32), rv b112]) rfl ?_
                show SS p e below m T114 157 #[iv p1, iv p2, iv p3, iv p4, iv zs, iv fr, iv to, .val (.long dd), .second, .val (.long la), .second, iv (1 : Int32), rv b112] [] _
                refine XS.aload X114.here hx rfl (hb hby at_157) rfl rfl ?_
                show SS p e below m T114 159 #[iv p1, iv p2, iv p3, iv p4, iv zs, iv fr, iv to, .val (.long dd), .second, .val (.long la), .second, iv (1 : Int32), rv b112] [(.ref b112)] _
                refine XS.iload X114.here hx rfl (hb hby at_159) rfl ?_
                show SS p e below m T114 161 #[iv p1, iv p2, iv p3, iv p4, iv zs, iv fr, iv to, .val (.long dd), .second, .val (.long la), .second, iv (1 : Int32), rv b112] [(.int fr), (.ref b112)] _
                refine XS.iload X114.here hx rfl (hb hby at_161) rfl ?_
                show SS p e below m T114 163 #[iv p1, iv p2, iv p3, iv p4, iv zs, iv fr, iv to, .val (.long dd), .second, .val (.long la), .second, iv (1 : Int32), rv b112] [(.int to), (.int fr), (.ref b112)] _
                refine XS.iload X114.here hx rfl (hb hby at_163) rfl ?_
                show SS p e below m T114 165 #[iv p1, iv p2, iv p3, iv p4, iv zs, iv fr, iv to, .val (.long dd), .second, .val (.long la), .second, iv (1 : Int32), rv b112] [(.int zs), (.int to), (.int fr), (.ref b112)] _
                exact kk)
              obtain ⟨cq116, kq116, q116a, q116b, q116c⟩ := isOf hZ e114 A112
              obtain ⟨_, _, ⟨T116, L116, k116, n116⟩, -, X116, ⟨Lc116, hQ116, l116, y116, z116⟩, st116⟩ := X114.virtualBack hx (y := (⟨"com/example/hermit_crab/hermitcrab/sim/Topology$Ring", "links", "(III)Z"⟩ : MethodName)) (z := (⟨"com/example/hermit_crab/hermitcrab/sim/Topology$Ring", "links", "(III)Z"⟩ : MethodName)) hown (mvT hZ (hw _ (List.mem_of_getElem? (i := 18) rfl))) (mvT hZ (hw _ (List.mem_of_getElem? (i := 19) rfl))) (notFace_of_selects (args := #[]) (mvT hZ (hw _ (List.mem_of_getElem? (i := 21) rfl)))) (mvT hZ (hw _ (List.mem_of_getElem? (i := 21) rfl))) (mvT hZ (hw _ (List.mem_of_getElem? (i := 20) rfl))) (by decide) (backOf (W := 0) (rm4 l Z a0 hw [] b112 fr to zs h112 n0 Z112 hnz0) hZ (hw _ (List.mem_of_getElem? (i := 22) rfl)) (hw _ (List.mem_of_getElem? (i := 6) rfl)) (by decide) (by decide)) q116a q116c (g := (mkF m 165 #[iv p1, iv p2, iv p3, iv p4, iv zs, iv fr, iv to, .val (.long dd), .second, .val (.long la), .second, iv (1 : Int32), rv b112] [(.int zs), (.int to), (.int fr), (.ref b112)])) rfl (by rw [hml]; rfl) (Steps.refl _) (argsL := [(.int fr), (.int to), (.int zs)]) (rest := []) (lenOf pd_1 rfl) rfl (by show 2 * 0 + _ ≤ _; exact Nat.le_of_eq rfl) (hb hby at_165) (fun _ _ => ⟨rfl, e114, (by decide : 1 + 0 ≤ _), (by decide : 0 + 0 ≤ _)⟩)
              dsimp only [Pt.U, Pt.locs, Pt.cells, Pt.slots] at X116 l116 y116 z116 st116 hQ116
              subst l116 y116 z116
              obtain ⟨rfl, N116q, e116⟩ := hQ116
              have N116 := Fr.app N114 N116q
              have pre120 : ∀ t, SS p e below m T116 170 #[iv p1, iv p2, iv p3, iv p4, iv zs, iv fr, iv to, .val (.long dd), .second, .val (.long la), .second, iv (1 : Int32), rv b112] [(.int (1 : Int32)), (.int (f4 fr to zs))] t → B t := fun t kk => pre115 t (by
                refine st116.trans ?_
                show SS p e below m T116 168 #[iv p1, iv p2, iv p3, iv p4, iv zs, iv fr, iv to, .val (.long dd), .second, .val (.long la), .second, iv (1 : Int32), rv b112] [(.int (f4 fr to zs))] _
                refine XS.iload X116.here hx rfl (hb hby at_168) rfl ?_
                show SS p e below m T116 170 #[iv p1, iv p2, iv p3, iv p4, iv zs, iv fr, iv to, .val (.long dd), .second, .val (.long la), .second, iv (1 : Int32), rv b112] [(.int (1 : Int32)), (.int (f4 fr to zs))] _
                exact kk)
              have hq121 : (f4 fr to zs) = (1 : Int32) := by
                rw [own_links _ _ _ hz hfr hto]
                have u117 := mt (lw_eq dd (1 : Int64)).mpr hc85
                rw [← Int64.toInt_inj] at u117
                have u118 := mt (lw_eq dd (-1 : Int64)).mpr hc97
                rw [← Int64.toInt_inj] at u118
                have u119 := (lw_eq dd la).mp hc110
                rw [← Int64.toInt_inj] at u119
                have J1 : (1 : Int64).toInt = 1 := by decide
                have Jm : (-1 : Int64).toInt = -1 := by decide
                rw [if_pos (by omega)]
              have pre122 : ∀ t, SS p e below m T116 178 #[iv p1, iv p2, iv p3, iv p4, iv zs, iv fr, iv to, .val (.long dd), .second, .val (.long la), .second, iv (1 : Int32), rv b112] [(.int (1 : Int32))] t → B t := fun t kk => pre120 t (by
                refine XS.icmpNo X116.here hx rfl (hb hby at_170) rfl (teq hq121).2 ?_
                show SS p e below m T116 173 #[iv p1, iv p2, iv p3, iv p4, iv zs, iv fr, iv to, .val (.long dd), .second, .val (.long la), .second, iv (1 : Int32), rv b112] [] _
                refine XS.iconst X116.here hx rfl (hb hby at_173) ?_
                show SS p e below m T116 174 #[iv p1, iv p2, iv p3, iv p4, iv zs, iv fr, iv to, .val (.long dd), .second, .val (.long la), .second, iv (1 : Int32), rv b112] [(.int (1 : Int32))] _
                refine XS.goto X116.here hx rfl (pc0 := 174) (pc' := 178) rfl (hb hby at_174) (by decide) (by decide) ?_
                show SS p e below m T116 178 #[iv p1, iv p2, iv p3, iv p4, iv zs, iv fr, iv to, .val (.long dd), .second, .val (.long la), .second, iv (1 : Int32), rv b112] [(.int (1 : Int32))] _
                exact kk)
              obtain ⟨fs, hr, hrun, hended, hW, hsame⟩ := X116.leave (v := some (.int (1 : Int32))) (fun h => by rw [Bd.returns] at h; cases h)
              refine ⟨_, _, hB _ (pre122 _ ?_), hrun, hended, _, _, rfl, ?_, ⟨_, rfl⟩, hW, hsame.mono (by decide) (by decide)⟩
              · exact retN X116 hx (t := .boolean) Bd.returns (by simp) (hb hby at_178) hr
              · exact ⟨rfl, N116⟩
            · have pre123 : ∀ t, SS p e below m s₁ 138 #[iv p1, iv p2, iv p3, iv p4, iv zs, iv fr, iv to, .val (.long dd), .second, .val (.long la), .second, .unset, .unset] [(.int (lcmpW dd (-la)))] t → B t := fun t kk => pre109 t (by
                refine XS.ifNo X0.here hx rfl (hb hby at_129) rfl ((if0 _ _).trans (feq hc110).1) ?_
                show SS p e below m s₁ 132 #[iv p1, iv p2, iv p3, iv p4, iv zs, iv fr, iv to, .val (.long dd), .second, .val (.long la), .second, .unset, .unset] [] _
                refine XS.lload X0.here hx rfl (hb hby at_132) rfl ?_
                show SS p e below m s₁ 134 #[iv p1, iv p2, iv p3, iv p4, iv zs, iv fr, iv to, .val (.long dd), .second, .val (.long la), .second, .unset, .unset] [(.long dd)] _
                refine XS.lload X0.here hx rfl (hb hby at_134) rfl ?_
                show SS p e below m s₁ 136 #[iv p1, iv p2, iv p3, iv p4, iv zs, iv fr, iv to, .val (.long dd), .second, .val (.long la), .second, .unset, .unset] [(.long la), (.long dd)] _
                refine XS.lneg X0.here hx rfl (hb hby at_136) rfl ?_
                show SS p e below m s₁ 137 #[iv p1, iv p2, iv p3, iv p4, iv zs, iv fr, iv to, .val (.long dd), .second, .val (.long la), .second, .unset, .unset] [(.long (-la)), (.long dd)] _
                refine XS.lcmp X0.here hx rfl (hb hby at_137) rfl ?_
                show SS p e below m s₁ 138 #[iv p1, iv p2, iv p3, iv p4, iv zs, iv fr, iv to, .val (.long dd), .second, .val (.long la), .second, .unset, .unset] [(.int (lcmpW dd (-la)))] _
                exact kk)
              by_cases hc124 : (lcmpW dd (-la)) = (0 : Int32)
              · have pre125 : ∀ t, SS p e below m s₁ 148 #[iv p1, iv p2, iv p3, iv p4, iv zs, iv fr, iv to, .val (.long dd), .second, .val (.long la), .second, iv (1 : Int32), .unset] [] t → B t := fun t kk => pre123 t (by
                  refine XS.ifNo X0.here hx rfl (hb hby at_138) rfl ((if0 _ _).trans (teq hc124).2) ?_
                  show SS p e below m s₁ 141 #[iv p1, iv p2, iv p3, iv p4, iv zs, iv fr, iv to, .val (.long dd), .second, .val (.long la), .second, .unset, .unset] [] _
                  refine XS.iconst X0.here hx rfl (hb hby at_141) ?_
                  show SS p e below m s₁ 142 #[iv p1, iv p2, iv p3, iv p4, iv zs, iv fr, iv to, .val (.long dd), .second, .val (.long la), .second, .unset, .unset] [(.int (1 : Int32))] _
                  refine XS.goto X0.here hx rfl (pc0 := 142) (pc' := 146) rfl (hb hby at_142) (by decide) (by decide) ?_
                  show SS p e below m s₁ 146 #[iv p1, iv p2, iv p3, iv p4, iv zs, iv fr, iv to, .val (.long dd), .second, .val (.long la), .second, .unset, .unset] [(.int (1 : Int32))] _
                  refine XS.istore X0.here hx rfl (hb hby at_146) rfl (l' := #[iv p1, iv p2, iv p3, iv p4, iv zs, iv fr, iv to, .val (.long dd), .second, .val (.long la), .second, iv (1 : Int32), .unset]) rfl ?_
                  show SS p e below m s₁ 148 #[iv p1, iv p2, iv p3, iv p4, iv zs, iv fr, iv to, .val (.long dd), .second, .val (.long la), .second, iv (1 : Int32), .unset] [] _
                  exact kk)
                obtain ⟨T126, h126, X126, e126, E126, A126, D126, -, st126⟩ := newO X0 hx hZ hown (hw _ (List.mem_of_getElem? (i := 4) rfl)) (hw _ (List.mem_of_getElem? (i := 5) rfl)) (hw _ (List.mem_of_getElem? (i := 6) rfl)) e0 (g := (mkF m 148 #[iv p1, iv p2, iv p3, iv p4, iv zs, iv fr, iv to, .val (.long dd), .second, .val (.long la), .second, iv (1 : Int32), .unset] [])) rfl (hb hby at_148) (by decide) (by decide)
                obtain ⟨b126, g126⟩ : ∃ z, z = h0.size := ⟨_, rfl⟩
                rw [← g126] at A126 D126 st126
                have g_b126 : n0 ≤ b126 := Nat.le_trans Z0 (Nat.le_of_eq g126.symm)
                have Z126 : n0 ≤ h126.size := Nat.le_trans Z0 E126.1
                have pre127 : ∀ t, SS p e below m T126 152 #[iv p1, iv p2, iv p3, iv p4, iv zs, iv fr, iv to, .val (.long dd), .second, .val (.long la), .second, iv (1 : Int32), .unset] [(.ref b126), (.ref b126)] t → B t := fun t kk => pre125 t (by
                  refine st126 _ ?_
                  show SS p e below m T126 151 #[iv p1, iv p2, iv p3, iv p4, iv zs, iv fr, iv to, .val (.long dd), .second, .val (.long la), .second, iv (1 : Int32), .unset] [(.ref b126)] _
                  refine XS.dup X126.here hx rfl (hb hby at_151) rfl rfl ?_
                  show SS p e below m T126 152 #[iv p1, iv p2, iv p3, iv p4, iv zs, iv fr, iv to, .val (.long dd), .second, .val (.long la), .second, iv (1 : Int32), .unset] [(.ref b126), (.ref b126)] _
                  exact kk)
                obtain ⟨_, _, ⟨T128, L128, k128, n128⟩, -, X128, ⟨Lc128, hQ128, l128, y128, z128⟩, st128⟩ := X126.specialBack hx (y := (⟨"com/example/hermit_crab/hermitcrab/sim/Topology$Ring", "<init>", "()V"⟩ : MethodName)) rfl hown (mvT hZ (hw _ (List.mem_of_getElem? (i := 7) rfl))) (mvT hZ (hw _ (List.mem_of_getElem? (i := 8) rfl))) (mvT hZ (hw _ (List.mem_of_getElem? (i := 9) rfl))) (by decide) (backOf (W := 1) (rm1 l Z a0 hw [] b126 h126 n0 Z126 ) hZ (hw _ (List.mem_of_getElem? (i := 9) rfl)) (hw _ (List.mem_of_getElem? (i := 6) rfl)) (by decide) (by decide)) (g := (mkF m 152 #[iv p1, iv p2, iv p3, iv p4, iv zs, iv fr, iv to, .val (.long dd), .second, .val (.long la), .second, iv (1 : Int32), .unset] [(.ref b126), (.ref b126)])) rfl (by rw [hml]; rfl) (Steps.refl _) (a := b126) (argsL := []) (rest := [(.ref b126)]) (lenOf pd_0 rfl) rfl (by show 2 * 0 + _ ≤ _; exact Nat.le_of_eq rfl) (hb hby at_152) (fun _ _ => ⟨rfl, e126, (by decide : 1 + 0 ≤ _), (by decide : 0 + 0 ≤ _)⟩)
                dsimp only [Pt.U, Pt.locs, Pt.cells, Pt.slots] at X128 l128 y128 z128 st128 hQ128
                subst l128 y128 z128
                obtain ⟨rfl, N128q, e128⟩ := hQ128
                have N128 := Fr.app N0 N128q
                have pre129 : ∀ t, SS p e below m T128 165 #[iv p1, iv p2, iv p3, iv p4, iv zs, iv fr, iv to, .val (.long dd), .second, .val (.long la), .second, iv (1 : Int32), rv b126] [(.int zs), (.int to), (.int fr), (.ref b126)] t → B t := fun t kk => pre127 t (by
                  refine st128.trans ?_
                  show SS p e below m T128 155 #[iv p1, iv p2, iv p3, iv p4, iv zs, iv fr, iv to, .val (.long dd), .second, .val (.long la), .second, iv (1 : Int32), .unset] [(.ref b126)] _
                  refine XS.astore X128.here hx rfl (hb hby at_155) rfl rfl (l' := #[iv p1, iv p2, iv p3, iv p4, iv zs, iv fr, iv to, .val (.long dd), .second, .val (.long la), .second, iv (1 : Int32), rv b126]) rfl ?_
                  show SS p e below m T128 157 #[iv p1, iv p2, iv p3, iv p4, iv zs, iv fr, iv to, .val (.long dd), .second, .val (.long la), .second, iv (1 : Int32), rv b126] [] _
                  refine XS.aload X128.here hx rfl (hb hby at_157) rfl rfl ?_
                  show SS p e below m T128 159 #[iv p1, iv p2, iv p3, iv p4, iv zs, iv fr, iv to, .val (.long dd), .second, .val (.long la), .second, iv (1 : Int32), rv b126] [(.ref b126)] _
                  refine XS.iload X128.here hx rfl (hb hby at_159) rfl ?_
                  show SS p e below m T128 161 #[iv p1, iv p2, iv p3, iv p4, iv zs, iv fr, iv to, .val (.long dd), .second, .val (.long la), .second, iv (1 : Int32), rv b126] [(.int fr), (.ref b126)] _
                  refine XS.iload X128.here hx rfl (hb hby at_161) rfl ?_
                  show SS p e below m T128 163 #[iv p1, iv p2, iv p3, iv p4, iv zs, iv fr, iv to, .val (.long dd), .second, .val (.long la), .second, iv (1 : Int32), rv b126] [(.int to), (.int fr), (.ref b126)] _
                  refine XS.iload X128.here hx rfl (hb hby at_163) rfl ?_
                  show SS p e below m T128 165 #[iv p1, iv p2, iv p3, iv p4, iv zs, iv fr, iv to, .val (.long dd), .second, .val (.long la), .second, iv (1 : Int32), rv b126] [(.int zs), (.int to), (.int fr), (.ref b126)] _
                  exact kk)
                obtain ⟨cq130, kq130, q130a, q130b, q130c⟩ := isOf hZ e128 A126
                obtain ⟨_, _, ⟨T130, L130, k130, n130⟩, -, X130, ⟨Lc130, hQ130, l130, y130, z130⟩, st130⟩ := X128.virtualBack hx (y := (⟨"com/example/hermit_crab/hermitcrab/sim/Topology$Ring", "links", "(III)Z"⟩ : MethodName)) (z := (⟨"com/example/hermit_crab/hermitcrab/sim/Topology$Ring", "links", "(III)Z"⟩ : MethodName)) hown (mvT hZ (hw _ (List.mem_of_getElem? (i := 18) rfl))) (mvT hZ (hw _ (List.mem_of_getElem? (i := 19) rfl))) (notFace_of_selects (args := #[]) (mvT hZ (hw _ (List.mem_of_getElem? (i := 21) rfl)))) (mvT hZ (hw _ (List.mem_of_getElem? (i := 21) rfl))) (mvT hZ (hw _ (List.mem_of_getElem? (i := 20) rfl))) (by decide) (backOf (W := 0) (rm4 l Z a0 hw [] b126 fr to zs h126 n0 Z126 hnz0) hZ (hw _ (List.mem_of_getElem? (i := 22) rfl)) (hw _ (List.mem_of_getElem? (i := 6) rfl)) (by decide) (by decide)) q130a q130c (g := (mkF m 165 #[iv p1, iv p2, iv p3, iv p4, iv zs, iv fr, iv to, .val (.long dd), .second, .val (.long la), .second, iv (1 : Int32), rv b126] [(.int zs), (.int to), (.int fr), (.ref b126)])) rfl (by rw [hml]; rfl) (Steps.refl _) (argsL := [(.int fr), (.int to), (.int zs)]) (rest := []) (lenOf pd_1 rfl) rfl (by show 2 * 0 + _ ≤ _; exact Nat.le_of_eq rfl) (hb hby at_165) (fun _ _ => ⟨rfl, e128, (by decide : 1 + 0 ≤ _), (by decide : 0 + 0 ≤ _)⟩)
                dsimp only [Pt.U, Pt.locs, Pt.cells, Pt.slots] at X130 l130 y130 z130 st130 hQ130
                subst l130 y130 z130
                obtain ⟨rfl, N130q, e130⟩ := hQ130
                have N130 := Fr.app N128 N130q
                have pre135 : ∀ t, SS p e below m T130 170 #[iv p1, iv p2, iv p3, iv p4, iv zs, iv fr, iv to, .val (.long dd), .second, .val (.long la), .second, iv (1 : Int32), rv b126] [(.int (1 : Int32)), (.int (f4 fr to zs))] t → B t := fun t kk => pre129 t (by
                  refine st130.trans ?_
                  show SS p e below m T130 168 #[iv p1, iv p2, iv p3, iv p4, iv zs, iv fr, iv to, .val (.long dd), .second, .val (.long la), .second, iv (1 : Int32), rv b126] [(.int (f4 fr to zs))] _
                  refine XS.iload X130.here hx rfl (hb hby at_168) rfl ?_
                  show SS p e below m T130 170 #[iv p1, iv p2, iv p3, iv p4, iv zs, iv fr, iv to, .val (.long dd), .second, .val (.long la), .second, iv (1 : Int32), rv b126] [(.int (1 : Int32)), (.int (f4 fr to zs))] _
                  exact kk)
                have hq136 : (f4 fr to zs) = (1 : Int32) := by
                  rw [own_links _ _ _ hz hfr hto]
                  have u131 := mt (lw_eq dd (1 : Int64)).mpr hc85
                  rw [← Int64.toInt_inj] at u131
                  have u132 := mt (lw_eq dd (-1 : Int64)).mpr hc97
                  rw [← Int64.toInt_inj] at u132
                  have u133 := mt (lw_eq dd la).mpr hc110
                  rw [← Int64.toInt_inj] at u133
                  have u134 := (lw_eq dd (-la)).mp hc124
                  rw [← Int64.toInt_inj] at u134
                  have J1 : (1 : Int64).toInt = 1 := by decide
                  have Jm : (-1 : Int64).toInt = -1 := by decide
                  rw [if_pos (by omega)]
                have pre137 : ∀ t, SS p e below m T130 178 #[iv p1, iv p2, iv p3, iv p4, iv zs, iv fr, iv to, .val (.long dd), .second, .val (.long la), .second, iv (1 : Int32), rv b126] [(.int (1 : Int32))] t → B t := fun t kk => pre135 t (by
                  refine XS.icmpNo X130.here hx rfl (hb hby at_170) rfl (teq hq136).2 ?_
                  show SS p e below m T130 173 #[iv p1, iv p2, iv p3, iv p4, iv zs, iv fr, iv to, .val (.long dd), .second, .val (.long la), .second, iv (1 : Int32), rv b126] [] _
                  refine XS.iconst X130.here hx rfl (hb hby at_173) ?_
                  show SS p e below m T130 174 #[iv p1, iv p2, iv p3, iv p4, iv zs, iv fr, iv to, .val (.long dd), .second, .val (.long la), .second, iv (1 : Int32), rv b126] [(.int (1 : Int32))] _
                  refine XS.goto X130.here hx rfl (pc0 := 174) (pc' := 178) rfl (hb hby at_174) (by decide) (by decide) ?_
                  show SS p e below m T130 178 #[iv p1, iv p2, iv p3, iv p4, iv zs, iv fr, iv to, .val (.long dd), .second, .val (.long la), .second, iv (1 : Int32), rv b126] [(.int (1 : Int32))] _
                  exact kk)
                obtain ⟨fs, hr, hrun, hended, hW, hsame⟩ := X130.leave (v := some (.int (1 : Int32))) (fun h => by rw [Bd.returns] at h; cases h)
                refine ⟨_, _, hB _ (pre137 _ ?_), hrun, hended, _, _, rfl, ?_, ⟨_, rfl⟩, hW, hsame.mono (by decide) (by decide)⟩
                · exact retN X130 hx (t := .boolean) Bd.returns (by simp) (hb hby at_178) hr
                · exact ⟨rfl, N130⟩
              · have pre138 : ∀ t, SS p e below m s₁ 148 #[iv p1, iv p2, iv p3, iv p4, iv zs, iv fr, iv to, .val (.long dd), .second, .val (.long la), .second, iv (0 : Int32), .unset] [] t → B t := fun t kk => pre123 t (by
                  refine XS.ifYes X0.here hx rfl (pc0 := 138) (pc' := 145) rfl (hb hby at_138) rfl ((if0 _ _).trans (feq hc124).2) (by decide) (by decide) ?_
                  show SS p e below m s₁ 145 #[iv p1, iv p2, iv p3, iv p4, iv zs, iv fr, iv to, .val (.long dd), .second, .val (.long la), .second, .unset, .unset] [] _
                  refine XS.iconst X0.here hx rfl (hb hby at_145) ?_
                  show SS p e below m s₁ 146 #[iv p1, iv p2, iv p3, iv p4, iv zs, iv fr, iv to, .val (.long dd), .second, .val (.long la), .second, .unset, .unset] [(.int (0 : Int32))] _
                  refine XS.istore X0.here hx rfl (hb hby at_146) rfl (l' := #[iv p1, iv p2, iv p3, iv p4, iv zs, iv fr, iv to, .val (.long dd), .second, .val (.long la), .second, iv (0 : Int32), .unset]) rfl ?_
                  show SS p e below m s₁ 148 #[iv p1, iv p2, iv p3, iv p4, iv zs, iv fr, iv to, .val (.long dd), .second, .val (.long la), .second, iv (0 : Int32), .unset] [] _
                  exact kk)
                obtain ⟨T139, h139, X139, e139, E139, A139, D139, -, st139⟩ := newO X0 hx hZ hown (hw _ (List.mem_of_getElem? (i := 4) rfl)) (hw _ (List.mem_of_getElem? (i := 5) rfl)) (hw _ (List.mem_of_getElem? (i := 6) rfl)) e0 (g := (mkF m 148 #[iv p1, iv p2, iv p3, iv p4, iv zs, iv fr, iv to, .val (.long dd), .second, .val (.long la), .second, iv (0 : Int32), .unset] [])) rfl (hb hby at_148) (by decide) (by decide)
                obtain ⟨b139, g139⟩ : ∃ z, z = h0.size := ⟨_, rfl⟩
                rw [← g139] at A139 D139 st139
                have g_b139 : n0 ≤ b139 := Nat.le_trans Z0 (Nat.le_of_eq g139.symm)
                have Z139 : n0 ≤ h139.size := Nat.le_trans Z0 E139.1
                have pre140 : ∀ t, SS p e below m T139 152 #[iv p1, iv p2, iv p3, iv p4, iv zs, iv fr, iv to, .val (.long dd), .second, .val (.long la), .second, iv (0 : Int32), .unset] [(.ref b139), (.ref b139)] t → B t := fun t kk => pre138 t (by
                  refine st139 _ ?_
                  show SS p e below m T139 151 #[iv p1, iv p2, iv p3, iv p4, iv zs, iv fr, iv to, .val (.long dd), .second, .val (.long la), .second, iv (0 : Int32), .unset] [(.ref b139)] _
                  refine XS.dup X139.here hx rfl (hb hby at_151) rfl rfl ?_
                  show SS p e below m T139 152 #[iv p1, iv p2, iv p3, iv p4, iv zs, iv fr, iv to, .val (.long dd), .second, .val (.long la), .second, iv (0 : Int32), .unset] [(.ref b139), (.ref b139)] _
                  exact kk)
                obtain ⟨_, _, ⟨T141, L141, k141, n141⟩, -, X141, ⟨Lc141, hQ141, l141, y141, z141⟩, st141⟩ := X139.specialBack hx (y := (⟨"com/example/hermit_crab/hermitcrab/sim/Topology$Ring", "<init>", "()V"⟩ : MethodName)) rfl hown (mvT hZ (hw _ (List.mem_of_getElem? (i := 7) rfl))) (mvT hZ (hw _ (List.mem_of_getElem? (i := 8) rfl))) (mvT hZ (hw _ (List.mem_of_getElem? (i := 9) rfl))) (by decide) (backOf (W := 1) (rm1 l Z a0 hw [] b139 h139 n0 Z139 ) hZ (hw _ (List.mem_of_getElem? (i := 9) rfl)) (hw _ (List.mem_of_getElem? (i := 6) rfl)) (by decide) (by decide)) (g := (mkF m 152 #[iv p1, iv p2, iv p3, iv p4, iv zs, iv fr, iv to, .val (.long dd), .second, .val (.long la), .second, iv (0 : Int32), .unset] [(.ref b139), (.ref b139)])) rfl (by rw [hml]; rfl) (Steps.refl _) (a := b139) (argsL := []) (rest := [(.ref b139)]) (lenOf pd_0 rfl) rfl (by show 2 * 0 + _ ≤ _; exact Nat.le_of_eq rfl) (hb hby at_152) (fun _ _ => ⟨rfl, e139, (by decide : 1 + 0 ≤ _), (by decide : 0 + 0 ≤ _)⟩)
                dsimp only [Pt.U, Pt.locs, Pt.cells, Pt.slots] at X141 l141 y141 z141 st141 hQ141
                subst l141 y141 z141
                obtain ⟨rfl, N141q, e141⟩ := hQ141
                have N141 := Fr.app N0 N141q
                have pre142 : ∀ t, SS p e below m T141 165 #[iv p1, iv p2, iv p3, iv p4, iv zs, iv fr, iv to, .val (.long dd), .second, .val (.long la), .second, iv (0 : Int32), rv b139] [(.int zs), (.int to), (.int fr), (.ref b139)] t → B t := fun t kk => pre140 t (by
                  refine st141.trans ?_
                  show SS p e below m T141 155 #[iv p1, iv p2, iv p3, iv p4, iv zs, iv fr, iv to, .val (.long dd), .second, .val (.long la), .second, iv (0 : Int32), .unset] [(.ref b139)] _
                  refine XS.astore X141.here hx rfl (hb hby at_155) rfl rfl (l' := #[iv p1, iv p2, iv p3, iv p4, iv zs, iv fr, iv to, .val (.long dd), .second, .val (.long la), .second, iv (0 : Int32), rv b139]) rfl ?_
                  show SS p e below m T141 157 #[iv p1, iv p2, iv p3, iv p4, iv zs, iv fr, iv to, .val (.long dd), .second, .val (.long la), .second, iv (0 : Int32), rv b139] [] _
                  refine XS.aload X141.here hx rfl (hb hby at_157) rfl rfl ?_
                  show SS p e below m T141 159 #[iv p1, iv p2, iv p3, iv p4, iv zs, iv fr, iv to, .val (.long dd), .second, .val (.long la), .second, iv (0 : Int32), rv b139] [(.ref b139)] _
                  refine XS.iload X141.here hx rfl (hb hby at_159) rfl ?_
                  show SS p e below m T141 161 #[iv p1, iv p2, iv p3, iv p4, iv zs, iv fr, iv to, .val (.long dd), .second, .val (.long la), .second, iv (0 : Int32), rv b139] [(.int fr), (.ref b139)] _
                  refine XS.iload X141.here hx rfl (hb hby at_161) rfl ?_
                  show SS p e below m T141 163 #[iv p1, iv p2, iv p3, iv p4, iv zs, iv fr, iv to, .val (.long dd), .second, .val (.long la), .second, iv (0 : Int32), rv b139] [(.int to), (.int fr), (.ref b139)] _
                  refine XS.iload X141.here hx rfl (hb hby at_163) rfl ?_
                  show SS p e below m T141 165 #[iv p1, iv p2, iv p3, iv p4, iv zs, iv fr, iv to, .val (.long dd), .second, .val (.long la), .second, iv (0 : Int32), rv b139] [(.int zs), (.int to), (.int fr), (.ref b139)] _
                  exact kk)
                obtain ⟨cq143, kq143, q143a, q143b, q143c⟩ := isOf hZ e141 A139
                obtain ⟨_, _, ⟨T143, L143, k143, n143⟩, -, X143, ⟨Lc143, hQ143, l143, y143, z143⟩, st143⟩ := X141.virtualBack hx (y := (⟨"com/example/hermit_crab/hermitcrab/sim/Topology$Ring", "links", "(III)Z"⟩ : MethodName)) (z := (⟨"com/example/hermit_crab/hermitcrab/sim/Topology$Ring", "links", "(III)Z"⟩ : MethodName)) hown (mvT hZ (hw _ (List.mem_of_getElem? (i := 18) rfl))) (mvT hZ (hw _ (List.mem_of_getElem? (i := 19) rfl))) (notFace_of_selects (args := #[]) (mvT hZ (hw _ (List.mem_of_getElem? (i := 21) rfl)))) (mvT hZ (hw _ (List.mem_of_getElem? (i := 21) rfl))) (mvT hZ (hw _ (List.mem_of_getElem? (i := 20) rfl))) (by decide) (backOf (W := 0) (rm4 l Z a0 hw [] b139 fr to zs h139 n0 Z139 hnz0) hZ (hw _ (List.mem_of_getElem? (i := 22) rfl)) (hw _ (List.mem_of_getElem? (i := 6) rfl)) (by decide) (by decide)) q143a q143c (g := (mkF m 165 #[iv p1, iv p2, iv p3, iv p4, iv zs, iv fr, iv to, .val (.long dd), .second, .val (.long la), .second, iv (0 : Int32), rv b139] [(.int zs), (.int to), (.int fr), (.ref b139)])) rfl (by rw [hml]; rfl) (Steps.refl _) (argsL := [(.int fr), (.int to), (.int zs)]) (rest := []) (lenOf pd_1 rfl) rfl (by show 2 * 0 + _ ≤ _; exact Nat.le_of_eq rfl) (hb hby at_165) (fun _ _ => ⟨rfl, e141, (by decide : 1 + 0 ≤ _), (by decide : 0 + 0 ≤ _)⟩)
                dsimp only [Pt.U, Pt.locs, Pt.cells, Pt.slots] at X143 l143 y143 z143 st143 hQ143
                subst l143 y143 z143
                obtain ⟨rfl, N143q, e143⟩ := hQ143
                have N143 := Fr.app N141 N143q
                have pre148 : ∀ t, SS p e below m T143 170 #[iv p1, iv p2, iv p3, iv p4, iv zs, iv fr, iv to, .val (.long dd), .second, .val (.long la), .second, iv (0 : Int32), rv b139] [(.int (0 : Int32)), (.int (f4 fr to zs))] t → B t := fun t kk => pre142 t (by
                  refine st143.trans ?_
                  show SS p e below m T143 168 #[iv p1, iv p2, iv p3, iv p4, iv zs, iv fr, iv to, .val (.long dd), .second, .val (.long la), .second, iv (0 : Int32), rv b139] [(.int (f4 fr to zs))] _
                  refine XS.iload X143.here hx rfl (hb hby at_168) rfl ?_
                  show SS p e below m T143 170 #[iv p1, iv p2, iv p3, iv p4, iv zs, iv fr, iv to, .val (.long dd), .second, .val (.long la), .second, iv (0 : Int32), rv b139] [(.int (0 : Int32)), (.int (f4 fr to zs))] _
                  exact kk)
                have hq149 : (f4 fr to zs) = (0 : Int32) := by
                  rw [own_links _ _ _ hz hfr hto]
                  have u144 := mt (lw_eq dd (1 : Int64)).mpr hc85
                  rw [← Int64.toInt_inj] at u144
                  have u145 := mt (lw_eq dd (-1 : Int64)).mpr hc97
                  rw [← Int64.toInt_inj] at u145
                  have u146 := mt (lw_eq dd la).mpr hc110
                  rw [← Int64.toInt_inj] at u146
                  have u147 := mt (lw_eq dd (-la)).mpr hc124
                  rw [← Int64.toInt_inj] at u147
                  have J1 : (1 : Int64).toInt = 1 := by decide
                  have Jm : (-1 : Int64).toInt = -1 := by decide
                  rw [if_neg (by omega)]
                have pre150 : ∀ t, SS p e below m T143 178 #[iv p1, iv p2, iv p3, iv p4, iv zs, iv fr, iv to, .val (.long dd), .second, .val (.long la), .second, iv (0 : Int32), rv b139] [(.int (1 : Int32))] t → B t := fun t kk => pre148 t (by
                  refine XS.icmpNo X143.here hx rfl (hb hby at_170) rfl (teq hq149).2 ?_
                  show SS p e below m T143 173 #[iv p1, iv p2, iv p3, iv p4, iv zs, iv fr, iv to, .val (.long dd), .second, .val (.long la), .second, iv (0 : Int32), rv b139] [] _
                  refine XS.iconst X143.here hx rfl (hb hby at_173) ?_
                  show SS p e below m T143 174 #[iv p1, iv p2, iv p3, iv p4, iv zs, iv fr, iv to, .val (.long dd), .second, .val (.long la), .second, iv (0 : Int32), rv b139] [(.int (1 : Int32))] _
                  refine XS.goto X143.here hx rfl (pc0 := 174) (pc' := 178) rfl (hb hby at_174) (by decide) (by decide) ?_
                  show SS p e below m T143 178 #[iv p1, iv p2, iv p3, iv p4, iv zs, iv fr, iv to, .val (.long dd), .second, .val (.long la), .second, iv (0 : Int32), rv b139] [(.int (1 : Int32))] _
                  exact kk)
                obtain ⟨fs, hr, hrun, hended, hW, hsame⟩ := X143.leave (v := some (.int (1 : Int32))) (fun h => by rw [Bd.returns] at h; cases h)
                refine ⟨_, _, hB _ (pre150 _ ?_), hrun, hended, _, _, rfl, ?_, ⟨_, rfl⟩, hW, hsame.mono (by decide) (by decide)⟩
                · exact retN X143 hx (t := .boolean) Bd.returns (by simp) (hb hby at_178) hr
                · exact ⟨rfl, N143⟩
      · have pre151 : ∀ t, SS p e below m s₁ 73 #[iv p1, iv p2, iv p3, iv p4, iv zs, iv fr, .unset, .val (.long c2), .second, .unset, .unset, .unset, .unset] [(.long (c2 - (zs.toInt64)))] t → B t := fun t kk => pre79 t (by
          refine XS.ifNo X0.here hx rfl (hb hby at_64) rfl ((if0 _ _).trans (flt hc80).1) ?_
          show SS p e below m s₁ 67 #[iv p1, iv p2, iv p3, iv p4, iv zs, iv fr, .unset, .val (.long c2), .second, .unset, .unset, .unset, .unset] [] _
          refine XS.lload X0.here hx rfl (hb hby at_67) rfl ?_
          show SS p e below m s₁ 69 #[iv p1, iv p2, iv p3, iv p4, iv zs, iv fr, .unset, .val (.long c2), .second, .unset, .unset, .unset, .unset] [(.long c2)] _
          refine XS.iload X0.here hx rfl (hb hby at_69) rfl ?_
          show SS p e below m s₁ 71 #[iv p1, iv p2, iv p3, iv p4, iv zs, iv fr, .unset, .val (.long c2), .second, .unset, .unset, .unset, .unset] [(.int zs), (.long c2)] _
          refine XS.i2l X0.here hx rfl (hb hby at_71) rfl ?_
          show SS p e below m s₁ 72 #[iv p1, iv p2, iv p3, iv p4, iv zs, iv fr, .unset, .val (.long c2), .second, .unset, .unset, .unset, .unset] [(.long (zs.toInt64)), (.long c2)] _
          refine XS.lsub X0.here hx rfl (hb hby at_72) rfl ?_
          show SS p e below m s₁ 73 #[iv p1, iv p2, iv p3, iv p4, iv zs, iv fr, .unset, .val (.long c2), .second, .unset, .unset, .unset, .unset] [(.long (c2 - (zs.toInt64)))] _
          exact kk)
        obtain ⟨c3, g_c3⟩ : ∃ z, z = (c2 - (zs.toInt64)) := ⟨_, rfl⟩
        rw [← g_c3] at pre151
        have kc3 : c3.toInt = c2.toInt - zs.toInt ∧ zs.toInt ≤ c2.toInt := by
          have q := mt (lw_lt c2 (zs.toInt64)).mpr hc80
          rw [Int64.lt_iff_toInt_lt, c_i2l] at q
          have a1 := c_lsub c2 (zs.toInt64)
          have rr := rng64 c3
          have rz := rng32 zs
          rw [c_i2l] at a1
          rw [← g_c3] at a1
          omega
        have pre152 : ∀ t, SS p e below m s₁ 78 #[iv p1, iv p2, iv p3, iv p4, iv zs, iv fr, .unset, .val (.long c3), .second, .unset, .unset, .unset, .unset] [(.int (c3.toInt32))] t → B t := fun t kk => pre151 t (by
          refine XS.lstore X0.here hx rfl (hb hby at_73) rfl (l' := #[iv p1, iv p2, iv p3, iv p4, iv zs, iv fr, .unset, .val (.long c3), .second, .unset, .unset, .unset, .unset]) rfl ?_
          show SS p e below m s₁ 75 #[iv p1, iv p2, iv p3, iv p4, iv zs, iv fr, .unset, .val (.long c3), .second, .unset, .unset, .unset, .unset] [] _
          refine XS.lload X0.here hx rfl (hb hby at_75) rfl ?_
          show SS p e below m s₁ 77 #[iv p1, iv p2, iv p3, iv p4, iv zs, iv fr, .unset, .val (.long c3), .second, .unset, .unset, .unset, .unset] [(.long c3)] _
          refine XS.l2i X0.here hx rfl (hb hby at_77) rfl ?_
          show SS p e below m s₁ 78 #[iv p1, iv p2, iv p3, iv p4, iv zs, iv fr, .unset, .val (.long c3), .second, .unset, .unset, .unset, .unset] [(.int (c3.toInt32))] _
          exact kk)
        obtain ⟨to, g_to⟩ : ∃ z, z = (c3.toInt32) := ⟨_, rfl⟩
        rw [← g_to] at pre152
        have hto : 0 ≤ to.toInt ∧ to.toInt < zs.toInt := by
          have q1 := (lw_lt c1 (0 : Int64)).mp hc77
          rw [Int64.lt_iff_toInt_lt] at q1
          have q2 := mt (lw_lt c2 (zs.toInt64)).mpr hc80
          rw [Int64.lt_iff_toInt_lt, c_i2l] at q2
          have L0 : (0 : Int64).toInt = 0 := by decide
          have a1 := c_l2i c3
          rw [← g_to] at a1
          have r1 := rng32 to
          have r2 := rng32 zs
          omega
        have pre153 : ∀ t, SS p e below m s₁ 99 #[iv p1, iv p2, iv p3, iv p4, iv zs, iv fr, iv to, .val (.long c3), .second, .unset, .unset, .unset, .unset] [(.long ((to.toInt64) - (fr.toInt64)))] t → B t := fun t kk => pre152 t (by
          refine XS.istore X0.here hx rfl (hb hby at_78) rfl (l' := #[iv p1, iv p2, iv p3, iv p4, iv zs, iv fr, iv to, .val (.long c3), .second, .unset, .unset, .unset, .unset]) rfl ?_
          show SS p e below m s₁ 80 #[iv p1, iv p2, iv p3, iv p4, iv zs, iv fr, iv to, .val (.long c3), .second, .unset, .unset, .unset, .unset] [] _
          refine XS.goto X0.here hx rfl (pc0 := 80) (pc' := 92) rfl (hb hby at_80) (by decide) (by decide) ?_
          show SS p e below m s₁ 92 #[iv p1, iv p2, iv p3, iv p4, iv zs, iv fr, iv to, .val (.long c3), .second, .unset, .unset, .unset, .unset] [] _
          refine XS.iload X0.here hx rfl (hb hby at_92) rfl ?_
          show SS p e below m s₁ 94 #[iv p1, iv p2, iv p3, iv p4, iv zs, iv fr, iv to, .val (.long c3), .second, .unset, .unset, .unset, .unset] [(.int to)] _
          refine XS.i2l X0.here hx rfl (hb hby at_94) rfl ?_
          show SS p e below m s₁ 95 #[iv p1, iv p2, iv p3, iv p4, iv zs, iv fr, iv to, .val (.long c3), .second, .unset, .unset, .unset, .unset] [(.long (to.toInt64))] _
          refine XS.iload X0.here hx rfl (hb hby at_95) rfl ?_
          show SS p e below m s₁ 97 #[iv p1, iv p2, iv p3, iv p4, iv zs, iv fr, iv to, .val (.long c3), .second, .unset, .unset, .unset, .unset] [(.int fr), (.long (to.toInt64))] _
          refine XS.i2l X0.here hx rfl (hb hby at_97) rfl ?_
          show SS p e below m s₁ 98 #[iv p1, iv p2, iv p3, iv p4, iv zs, iv fr, iv to, .val (.long c3), .second, .unset, .unset, .unset, .unset] [(.long (fr.toInt64)), (.long (to.toInt64))] _
          refine XS.lsub X0.here hx rfl (hb hby at_98) rfl ?_
          show SS p e below m s₁ 99 #[iv p1, iv p2, iv p3, iv p4, iv zs, iv fr, iv to, .val (.long c3), .second, .unset, .unset, .unset, .unset] [(.long ((to.toInt64) - (fr.toInt64)))] _
          exact kk)
        obtain ⟨dd, g_dd⟩ : ∃ z, z = ((to.toInt64) - (fr.toInt64)) := ⟨_, rfl⟩
        rw [← g_dd] at pre153
        have hdd : dd.toInt = to.toInt - fr.toInt := by
          have a1 := c_lsub (to.toInt64) (fr.toInt64)
          rw [c_i2l, c_i2l, ← g_dd] at a1
          have r := rng64 dd
          have r2 := rng32 zs
          omega
        have pre154 : ∀ t, SS p e below m s₁ 106 #[iv p1, iv p2, iv p3, iv p4, iv zs, iv fr, iv to, .val (.long dd), .second, .unset, .unset, .unset, .unset] [(.long ((zs.toInt64) - (1 : Int64)))] t → B t := fun t kk => pre153 t (by
          refine XS.lstore X0.here hx rfl (hb hby at_99) rfl (l' := #[iv p1, iv p2, iv p3, iv p4, iv zs, iv fr, iv to, .val (.long dd), .second, .unset, .unset, .unset, .unset]) rfl ?_
          show SS p e below m s₁ 101 #[iv p1, iv p2, iv p3, iv p4, iv zs, iv fr, iv to, .val (.long dd), .second, .unset, .unset, .unset, .unset] [] _
          refine XS.iload X0.here hx rfl (hb hby at_101) rfl ?_
          show SS p e below m s₁ 103 #[iv p1, iv p2, iv p3, iv p4, iv zs, iv fr, iv to, .val (.long dd), .second, .unset, .unset, .unset, .unset] [(.int zs)] _
          refine XS.i2l X0.here hx rfl (hb hby at_103) rfl ?_
          show SS p e below m s₁ 104 #[iv p1, iv p2, iv p3, iv p4, iv zs, iv fr, iv to, .val (.long dd), .second, .unset, .unset, .unset, .unset] [(.long (zs.toInt64))] _
          refine XS.lconst X0.here hx rfl (hb hby at_104) ?_
          show SS p e below m s₁ 105 #[iv p1, iv p2, iv p3, iv p4, iv zs, iv fr, iv to, .val (.long dd), .second, .unset, .unset, .unset, .unset] [(.long (1 : Int64)), (.long (zs.toInt64))] _
          refine XS.lsub X0.here hx rfl (hb hby at_105) rfl ?_
          show SS p e below m s₁ 106 #[iv p1, iv p2, iv p3, iv p4, iv zs, iv fr, iv to, .val (.long dd), .second, .unset, .unset, .unset, .unset] [(.long ((zs.toInt64) - (1 : Int64)))] _
          exact kk)
        obtain ⟨la, g_la⟩ : ∃ z, z = ((zs.toInt64) - (1 : Int64)) := ⟨_, rfl⟩
        rw [← g_la] at pre154
        have hla : la.toInt = zs.toInt - 1 ∧ (-la).toInt = 1 - zs.toInt := by
          have a1 := c_lsub (zs.toInt64) (1 : Int64)
          have L1 : (1 : Int64).toInt = 1 := by decide
          rw [c_i2l, ← g_la] at a1
          have a2 := c_lneg la
          have r := rng64 la
          have r3 := rng64 (-la)
          have r2 := rng32 zs
          omega
        have pre155 : ∀ t, SS p e below m s₁ 112 #[iv p1, iv p2, iv p3, iv p4, iv zs, iv fr, iv to, .val (.long dd), .second, .val (.long la), .second, .unset, .unset] [(.int (lcmpW dd (1 : Int64)))] t → B t := fun t kk => pre154 t (by
          refine XS.lstore X0.here hx rfl (hb hby at_106) rfl (l' := #[iv p1, iv p2, iv p3, iv p4, iv zs, iv fr, iv to, .val (.long dd), .second, .val (.long la), .second, .unset, .unset]) rfl ?_
          show SS p e below m s₁ 108 #[iv p1, iv p2, iv p3, iv p4, iv zs, iv fr, iv to, .val (.long dd), .second, .val (.long la), .second, .unset, .unset] [] _
          refine XS.lload X0.here hx rfl (hb hby at_108) rfl ?_
          show SS p e below m s₁ 110 #[iv p1, iv p2, iv p3, iv p4, iv zs, iv fr, iv to, .val (.long dd), .second, .val (.long la), .second, .unset, .unset] [(.long dd)] _
          refine XS.lconst X0.here hx rfl (hb hby at_110) ?_
          show SS p e below m s₁ 111 #[iv p1, iv p2, iv p3, iv p4, iv zs, iv fr, iv to, .val (.long dd), .second, .val (.long la), .second, .unset, .unset] [(.long (1 : Int64)), (.long dd)] _
          refine XS.lcmp X0.here hx rfl (hb hby at_111) rfl ?_
          show SS p e below m s₁ 112 #[iv p1, iv p2, iv p3, iv p4, iv zs, iv fr, iv to, .val (.long dd), .second, .val (.long la), .second, .unset, .unset] [(.int (lcmpW dd (1 : Int64)))] _
          exact kk)
        by_cases hc156 : (lcmpW dd (1 : Int64)) = (0 : Int32)
        · have pre157 : ∀ t, SS p e below m s₁ 148 #[iv p1, iv p2, iv p3, iv p4, iv zs, iv fr, iv to, .val (.long dd), .second, .val (.long la), .second, iv (1 : Int32), .unset] [] t → B t := fun t kk => pre155 t (by
            refine XS.ifYes X0.here hx rfl (pc0 := 112) (pc' := 141) rfl (hb hby at_112) rfl ((if0 _ _).trans (teq hc156).1) (by decide) (by decide) ?_
            show SS p e below m s₁ 141 #[iv p1, iv p2, iv p3, iv p4, iv zs, iv fr, iv to, .val (.long dd), .second, .val (.long la), .second, .unset, .unset] [] _
            refine XS.iconst X0.here hx rfl (hb hby at_141) ?_
            show SS p e below m s₁ 142 #[iv p1, iv p2, iv p3, iv p4, iv zs, iv fr, iv to, .val (.long dd), .second, .val (.long la), .second, .unset, .unset] [(.int (1 : Int32))] _
            refine XS.goto X0.here hx rfl (pc0 := 142) (pc' := 146) rfl (hb hby at_142) (by decide) (by decide) ?_
            show SS p e below m s₁ 146 #[iv p1, iv p2, iv p3, iv p4, iv zs, iv fr, iv to, .val (.long dd), .second, .val (.long la), .second, .unset, .unset] [(.int (1 : Int32))] _
            refine XS.istore X0.here hx rfl (hb hby at_146) rfl (l' := #[iv p1, iv p2, iv p3, iv p4, iv zs, iv fr, iv to, .val (.long dd), .second, .val (.long la), .second, iv (1 : Int32), .unset]) rfl ?_
            show SS p e below m s₁ 148 #[iv p1, iv p2, iv p3, iv p4, iv zs, iv fr, iv to, .val (.long dd), .second, .val (.long la), .second, iv (1 : Int32), .unset] [] _
            exact kk)
          obtain ⟨T158, h158, X158, e158, E158, A158, D158, -, st158⟩ := newO X0 hx hZ hown (hw _ (List.mem_of_getElem? (i := 4) rfl)) (hw _ (List.mem_of_getElem? (i := 5) rfl)) (hw _ (List.mem_of_getElem? (i := 6) rfl)) e0 (g := (mkF m 148 #[iv p1, iv p2, iv p3, iv p4, iv zs, iv fr, iv to, .val (.long dd), .second, .val (.long la), .second, iv (1 : Int32), .unset] [])) rfl (hb hby at_148) (by decide) (by decide)
          obtain ⟨b158, g158⟩ : ∃ z, z = h0.size := ⟨_, rfl⟩
          rw [← g158] at A158 D158 st158
          have g_b158 : n0 ≤ b158 := Nat.le_trans Z0 (Nat.le_of_eq g158.symm)
          have Z158 : n0 ≤ h158.size := Nat.le_trans Z0 E158.1
          have pre159 : ∀ t, SS p e below m T158 152 #[iv p1, iv p2, iv p3, iv p4, iv zs, iv fr, iv to, .val (.long dd), .second, .val (.long la), .second, iv (1 : Int32), .unset] [(.ref b158), (.ref b158)] t → B t := fun t kk => pre157 t (by
            refine st158 _ ?_
            show SS p e below m T158 151 #[iv p1, iv p2, iv p3, iv p4, iv zs, iv fr, iv to, .val (.long dd), .second, .val (.long la), .second, iv (1 : Int32), .unset] [(.ref b158)] _
            refine XS.dup X158.here hx rfl (hb hby at_151) rfl rfl ?_
            show SS p e below m T158 152 #[iv p1, iv p2, iv p3, iv p4, iv zs, iv fr, iv to, .val (.long dd), .second, .val (.long la), .second, iv (1 : Int32), .unset] [(.ref b158), (.ref b158)] _
            exact kk)
          obtain ⟨_, _, ⟨T160, L160, k160, n160⟩, -, X160, ⟨Lc160, hQ160, l160, y160, z160⟩, st160⟩ := X158.specialBack hx (y := (⟨"com/example/hermit_crab/hermitcrab/sim/Topology$Ring", "<init>", "()V"⟩ : MethodName)) rfl hown (mvT hZ (hw _ (List.mem_of_getElem? (i := 7) rfl))) (mvT hZ (hw _ (List.mem_of_getElem? (i := 8) rfl))) (mvT hZ (hw _ (List.mem_of_getElem? (i := 9) rfl))) (by decide) (backOf (W := 1) (rm1 l Z a0 hw [] b158 h158 n0 Z158 ) hZ (hw _ (List.mem_of_getElem? (i := 9) rfl)) (hw _ (List.mem_of_getElem? (i := 6) rfl)) (by decide) (by decide)) (g := (mkF m 152 #[iv p1, iv p2, iv p3, iv p4, iv zs, iv fr, iv to, .val (.long dd), .second, .val (.long la), .second, iv (1 : Int32), .unset] [(.ref b158), (.ref b158)])) rfl (by rw [hml]; rfl) (Steps.refl _) (a := b158) (argsL := []) (rest := [(.ref b158)]) (lenOf pd_0 rfl) rfl (by show 2 * 0 + _ ≤ _; exact Nat.le_of_eq rfl) (hb hby at_152) (fun _ _ => ⟨rfl, e158, (by decide : 1 + 0 ≤ _), (by decide : 0 + 0 ≤ _)⟩)
          dsimp only [Pt.U, Pt.locs, Pt.cells, Pt.slots] at X160 l160 y160 z160 st160 hQ160
          subst l160 y160 z160
          obtain ⟨rfl, N160q, e160⟩ := hQ160
          have N160 := Fr.app N0 N160q
          have pre161 : ∀ t, SS p e below m T160 165 #[iv p1, iv p2, iv p3, iv p4, iv zs, iv fr, iv to, .val (.long dd), .second, .val (.long la), .second, iv (1 : Int32), rv b158] [(.int zs), (.int to), (.int fr), (.ref b158)] t → B t := fun t kk => pre159 t (by
            refine st160.trans ?_
            show SS p e below m T160 155 #[iv p1, iv p2, iv p3, iv p4, iv zs, iv fr, iv to, .val (.long dd), .second, .val (.long la), .second, iv (1 : Int32), .unset] [(.ref b158)] _
            refine XS.astore X160.here hx rfl (hb hby at_155) rfl rfl (l' := #[iv p1, iv p2, iv p3, iv p4, iv zs, iv fr, iv to, .val (.long dd), .second, .val (.long la), .second, iv (1 : Int32), rv b158]) rfl ?_
            show SS p e below m T160 157 #[iv p1, iv p2, iv p3, iv p4, iv zs, iv fr, iv to, .val (.long dd), .second, .val (.long la), .second, iv (1 : Int32), rv b158] [] _
            refine XS.aload X160.here hx rfl (hb hby at_157) rfl rfl ?_
            show SS p e below m T160 159 #[iv p1, iv p2, iv p3, iv p4, iv zs, iv fr, iv to, .val (.long dd), .second, .val (.long la), .second, iv (1 : Int32), rv b158] [(.ref b158)] _
            refine XS.iload X160.here hx rfl (hb hby at_159) rfl ?_
            show SS p e below m T160 161 #[iv p1, iv p2, iv p3, iv p4, iv zs, iv fr, iv to, .val (.long dd), .second, .val (.long la), .second, iv (1 : Int32), rv b158] [(.int fr), (.ref b158)] _
            refine XS.iload X160.here hx rfl (hb hby at_161) rfl ?_
            show SS p e below m T160 163 #[iv p1, iv p2, iv p3, iv p4, iv zs, iv fr, iv to, .val (.long dd), .second, .val (.long la), .second, iv (1 : Int32), rv b158] [(.int to), (.int fr), (.ref b158)] _
            refine XS.iload X160.here hx rfl (hb hby at_163) rfl ?_
            show SS p e below m T160 165 #[iv p1, iv p2, iv p3, iv p4, iv zs, iv fr, iv to, .val (.long dd), .second, .val (.long la), .second, iv (1 : Int32), rv b158] [(.int zs), (.int to), (.int fr), (.ref b158)] _
            exact kk)
          obtain ⟨cq162, kq162, q162a, q162b, q162c⟩ := isOf hZ e160 A158
          obtain ⟨_, _, ⟨T162, L162, k162, n162⟩, -, X162, ⟨Lc162, hQ162, l162, y162, z162⟩, st162⟩ := X160.virtualBack hx (y := (⟨"com/example/hermit_crab/hermitcrab/sim/Topology$Ring", "links", "(III)Z"⟩ : MethodName)) (z := (⟨"com/example/hermit_crab/hermitcrab/sim/Topology$Ring", "links", "(III)Z"⟩ : MethodName)) hown (mvT hZ (hw _ (List.mem_of_getElem? (i := 18) rfl))) (mvT hZ (hw _ (List.mem_of_getElem? (i := 19) rfl))) (notFace_of_selects (args := #[]) (mvT hZ (hw _ (List.mem_of_getElem? (i := 21) rfl)))) (mvT hZ (hw _ (List.mem_of_getElem? (i := 21) rfl))) (mvT hZ (hw _ (List.mem_of_getElem? (i := 20) rfl))) (by decide) (backOf (W := 0) (rm4 l Z a0 hw [] b158 fr to zs h158 n0 Z158 hnz0) hZ (hw _ (List.mem_of_getElem? (i := 22) rfl)) (hw _ (List.mem_of_getElem? (i := 6) rfl)) (by decide) (by decide)) q162a q162c (g := (mkF m 165 #[iv p1, iv p2, iv p3, iv p4, iv zs, iv fr, iv to, .val (.long dd), .second, .val (.long la), .second, iv (1 : Int32), rv b158] [(.int zs), (.int to), (.int fr), (.ref b158)])) rfl (by rw [hml]; rfl) (Steps.refl _) (argsL := [(.int fr), (.int to), (.int zs)]) (rest := []) (lenOf pd_1 rfl) rfl (by show 2 * 0 + _ ≤ _; exact Nat.le_of_eq rfl) (hb hby at_165) (fun _ _ => ⟨rfl, e160, (by decide : 1 + 0 ≤ _), (by decide : 0 + 0 ≤ _)⟩)
          dsimp only [Pt.U, Pt.locs, Pt.cells, Pt.slots] at X162 l162 y162 z162 st162 hQ162
          subst l162 y162 z162
          obtain ⟨rfl, N162q, e162⟩ := hQ162
          have N162 := Fr.app N160 N162q
          have pre164 : ∀ t, SS p e below m T162 170 #[iv p1, iv p2, iv p3, iv p4, iv zs, iv fr, iv to, .val (.long dd), .second, .val (.long la), .second, iv (1 : Int32), rv b158] [(.int (1 : Int32)), (.int (f4 fr to zs))] t → B t := fun t kk => pre161 t (by
            refine st162.trans ?_
            show SS p e below m T162 168 #[iv p1, iv p2, iv p3, iv p4, iv zs, iv fr, iv to, .val (.long dd), .second, .val (.long la), .second, iv (1 : Int32), rv b158] [(.int (f4 fr to zs))] _
            refine XS.iload X162.here hx rfl (hb hby at_168) rfl ?_
            show SS p e below m T162 170 #[iv p1, iv p2, iv p3, iv p4, iv zs, iv fr, iv to, .val (.long dd), .second, .val (.long la), .second, iv (1 : Int32), rv b158] [(.int (1 : Int32)), (.int (f4 fr to zs))] _
            exact kk)
          have hq165 : (f4 fr to zs) = (1 : Int32) := by
            rw [own_links _ _ _ hz hfr hto]
            have u163 := (lw_eq dd (1 : Int64)).mp hc156
            rw [← Int64.toInt_inj] at u163
            have J1 : (1 : Int64).toInt = 1 := by decide
            have Jm : (-1 : Int64).toInt = -1 := by decide
            rw [if_pos (by omega)]
          have pre166 : ∀ t, SS p e below m T162 178 #[iv p1, iv p2, iv p3, iv p4, iv zs, iv fr, iv to, .val (.long dd), .second, .val (.long la), .second, iv (1 : Int32), rv b158] [(.int (1 : Int32))] t → B t := fun t kk => pre164 t (by
            refine XS.icmpNo X162.here hx rfl (hb hby at_170) rfl (teq hq165).2 ?_
            show SS p e below m T162 173 #[iv p1, iv p2, iv p3, iv p4, iv zs, iv fr, iv to, .val (.long dd), .second, .val (.long la), .second, iv (1 : Int32), rv b158] [] _
            refine XS.iconst X162.here hx rfl (hb hby at_173) ?_
            show SS p e below m T162 174 #[iv p1, iv p2, iv p3, iv p4, iv zs, iv fr, iv to, .val (.long dd), .second, .val (.long la), .second, iv (1 : Int32), rv b158] [(.int (1 : Int32))] _
            refine XS.goto X162.here hx rfl (pc0 := 174) (pc' := 178) rfl (hb hby at_174) (by decide) (by decide) ?_
            show SS p e below m T162 178 #[iv p1, iv p2, iv p3, iv p4, iv zs, iv fr, iv to, .val (.long dd), .second, .val (.long la), .second, iv (1 : Int32), rv b158] [(.int (1 : Int32))] _
            exact kk)
          obtain ⟨fs, hr, hrun, hended, hW, hsame⟩ := X162.leave (v := some (.int (1 : Int32))) (fun h => by rw [Bd.returns] at h; cases h)
          refine ⟨_, _, hB _ (pre166 _ ?_), hrun, hended, _, _, rfl, ?_, ⟨_, rfl⟩, hW, hsame.mono (by decide) (by decide)⟩
          · exact retN X162 hx (t := .boolean) Bd.returns (by simp) (hb hby at_178) hr
          · exact ⟨rfl, N162⟩
        · have pre167 : ∀ t, SS p e below m s₁ 121 #[iv p1, iv p2, iv p3, iv p4, iv zs, iv fr, iv to, .val (.long dd), .second, .val (.long la), .second, .unset, .unset] [(.int (lcmpW dd (-1 : Int64)))] t → B t := fun t kk => pre155 t (by
            refine XS.ifNo X0.here hx rfl (hb hby at_112) rfl ((if0 _ _).trans (feq hc156).1) ?_
            show SS p e below m s₁ 115 #[iv p1, iv p2, iv p3, iv p4, iv zs, iv fr, iv to, .val (.long dd), .second, .val (.long la), .second, .unset, .unset] [] _
            refine XS.lload X0.here hx rfl (hb hby at_115) rfl ?_
            show SS p e below m s₁ 117 #[iv p1, iv p2, iv p3, iv p4, iv zs, iv fr, iv to, .val (.long dd), .second, .val (.long la), .second, .unset, .unset] [(.long dd)] _
            refine X0.ldc2Long hx hown (mvT hZ (hw _ (List.mem_of_getElem? (i := 3) rfl))) (g := (mkF m 117 #[iv p1, iv p2, iv p3, iv p4, iv zs, iv fr, iv to, .val (.long dd), .second, .val (.long la), .second, .unset, .unset] [(.long dd)])) rfl (hb hby at_117) _ ?_
            show SS p e below m s₁ 120 #[iv p1, iv p2, iv p3, iv p4, iv zs, iv fr, iv to, .val (.long dd), .second, .val (.long la), .second, .unset, .unset] [(.long (-1 : Int64)), (.long dd)] _
            refine XS.lcmp X0.here hx rfl (hb hby at_120) rfl ?_
            show SS p e below m s₁ 121 #[iv p1, iv p2, iv p3, iv p4, iv zs, iv fr, iv to, .val (.long dd), .second, .val (.long la), .second, .unset, .unset] [(.int (lcmpW dd (-1 : Int64)))] _
            exact kk)
          by_cases hc168 : (lcmpW dd (-1 : Int64)) = (0 : Int32)
          · have pre169 : ∀ t, SS p e below m s₁ 148 #[iv p1, iv p2, iv p3, iv p4, iv zs, iv fr, iv to, .val (.long dd), .second, .val (.long la), .second, iv (1 : Int32), .unset] [] t → B t := fun t kk => pre167 t (by
              refine XS.ifYes X0.here hx rfl (pc0 := 121) (pc' := 141) rfl (hb hby at_121) rfl ((if0 _ _).trans (teq hc168).1) (by decide) (by decide) ?_
              show SS p e below m s₁ 141 #[iv p1, iv p2, iv p3, iv p4, iv zs, iv fr, iv to, .val (.long dd), .second, .val (.long la), .second, .unset, .unset] [] _
              refine XS.iconst X0.here hx rfl (hb hby at_141) ?_
              show SS p e below m s₁ 142 #[iv p1, iv p2, iv p3, iv p4, iv zs, iv fr, iv to, .val (.long dd), .second, .val (.long la), .second, .unset, .unset] [(.int (1 : Int32))] _
              refine XS.goto X0.here hx rfl (pc0 := 142) (pc' := 146) rfl (hb hby at_142) (by decide) (by decide) ?_
              show SS p e below m s₁ 146 #[iv p1, iv p2, iv p3, iv p4, iv zs, iv fr, iv to, .val (.long dd), .second, .val (.long la), .second, .unset, .unset] [(.int (1 : Int32))] _
              refine XS.istore X0.here hx rfl (hb hby at_146) rfl (l' := #[iv p1, iv p2, iv p3, iv p4, iv zs, iv fr, iv to, .val (.long dd), .second, .val (.long la), .second, iv (1 : Int32), .unset]) rfl ?_
              show SS p e below m s₁ 148 #[iv p1, iv p2, iv p3, iv p4, iv zs, iv fr, iv to, .val (.long dd), .second, .val (.long la), .second, iv (1 : Int32), .unset] [] _
              exact kk)
            obtain ⟨T170, h170, X170, e170, E170, A170, D170, -, st170⟩ := newO X0 hx hZ hown (hw _ (List.mem_of_getElem? (i := 4) rfl)) (hw _ (List.mem_of_getElem? (i := 5) rfl)) (hw _ (List.mem_of_getElem? (i := 6) rfl)) e0 (g := (mkF m 148 #[iv p1, iv p2, iv p3, iv p4, iv zs, iv fr, iv to, .val (.long dd), .second, .val (.long la), .second, iv (1 : Int32), .unset] [])) rfl (hb hby at_148) (by decide) (by decide)
            obtain ⟨b170, g170⟩ : ∃ z, z = h0.size := ⟨_, rfl⟩
            rw [← g170] at A170 D170 st170
            have g_b170 : n0 ≤ b170 := Nat.le_trans Z0 (Nat.le_of_eq g170.symm)
            have Z170 : n0 ≤ h170.size := Nat.le_trans Z0 E170.1
            have pre171 : ∀ t, SS p e below m T170 152 #[iv p1, iv p2, iv p3, iv p4, iv zs, iv fr, iv to, .val (.long dd), .second, .val (.long la), .second, iv (1 : Int32), .unset] [(.ref b170), (.ref b170)] t → B t := fun t kk => pre169 t (by
              refine st170 _ ?_
              show SS p e below m T170 151 #[iv p1, iv p2, iv p3, iv p4, iv zs, iv fr, iv to, .val (.long dd), .second, .val (.long la), .second, iv (1 : Int32), .unset] [(.ref b170)] _
              refine XS.dup X170.here hx rfl (hb hby at_151) rfl rfl ?_
              show SS p e below m T170 152 #[iv p1, iv p2, iv p3, iv p4, iv zs, iv fr, iv to, .val (.long dd), .second, .val (.long la), .second, iv (1 : Int32), .unset] [(.ref b170), (.ref b170)] _
              exact kk)
            obtain ⟨_, _, ⟨T172, L172, k172, n172⟩, -, X172, ⟨Lc172, hQ172, l172, y172, z172⟩, st172⟩ := X170.specialBack hx (y := (⟨"com/example/hermit_crab/hermitcrab/sim/Topology$Ring", "<init>", "()V"⟩ : MethodName)) rfl hown (mvT hZ (hw _ (List.mem_of_getElem? (i := 7) rfl))) (mvT hZ (hw _ (List.mem_of_getElem? (i := 8) rfl))) (mvT hZ (hw _ (List.mem_of_getElem? (i := 9) rfl))) (by decide) (backOf (W := 1) (rm1 l Z a0 hw [] b170 h170 n0 Z170 ) hZ (hw _ (List.mem_of_getElem? (i := 9) rfl)) (hw _ (List.mem_of_getElem? (i := 6) rfl)) (by decide) (by decide)) (g := (mkF m 152 #[iv p1, iv p2, iv p3, iv p4, iv zs, iv fr, iv to, .val (.long dd), .second, .val (.long la), .second, iv (1 : Int32), .unset] [(.ref b170), (.ref b170)])) rfl (by rw [hml]; rfl) (Steps.refl _) (a := b170) (argsL := []) (rest := [(.ref b170)]) (lenOf pd_0 rfl) rfl (by show 2 * 0 + _ ≤ _; exact Nat.le_of_eq rfl) (hb hby at_152) (fun _ _ => ⟨rfl, e170, (by decide : 1 + 0 ≤ _), (by decide : 0 + 0 ≤ _)⟩)
            dsimp only [Pt.U, Pt.locs, Pt.cells, Pt.slots] at X172 l172 y172 z172 st172 hQ172
            subst l172 y172 z172
            obtain ⟨rfl, N172q, e172⟩ := hQ172
            have N172 := Fr.app N0 N172q
            have pre173 : ∀ t, SS p e below m T172 165 #[iv p1, iv p2, iv p3, iv p4, iv zs, iv fr, iv to, .val (.long dd), .second, .val (.long la), .second, iv (1 : Int32), rv b170] [(.int zs), (.int to), (.int fr), (.ref b170)] t → B t := fun t kk => pre171 t (by
              refine st172.trans ?_
              show SS p e below m T172 155 #[iv p1, iv p2, iv p3, iv p4, iv zs, iv fr, iv to, .val (.long dd), .second, .val (.long la), .second, iv (1 : Int32), .unset] [(.ref b170)] _
              refine XS.astore X172.here hx rfl (hb hby at_155) rfl rfl (l' := #[iv p1, iv p2, iv p3, iv p4, iv zs, iv fr, iv to, .val (.long dd), .second, .val (.long la), .second, iv (1 : Int32), rv b170]) rfl ?_
              show SS p e below m T172 157 #[iv p1, iv p2, iv p3, iv p4, iv zs, iv fr, iv to, .val (.long dd), .second, .val (.long la), .second, iv (1 : Int32), rv b170] [] _
              refine XS.aload X172.here hx rfl (hb hby at_157) rfl rfl ?_
              show SS p e below m T172 159 #[iv p1, iv p2, iv p3, iv p4, iv zs, iv fr, iv to, .val (.long dd), .second, .val (.long la), .second, iv (1 : Int32), rv b170] [(.ref b170)] _
              refine XS.iload X172.here hx rfl (hb hby at_159) rfl ?_
              show SS p e below m T172 161 #[iv p1, iv p2, iv p3, iv p4, iv zs, iv fr, iv to, .val (.long dd), .second, .val (.long la), .second, iv (1 : Int32), rv b170] [(.int fr), (.ref b170)] _
              refine XS.iload X172.here hx rfl (hb hby at_161) rfl ?_
              show SS p e below m T172 163 #[iv p1, iv p2, iv p3, iv p4, iv zs, iv fr, iv to, .val (.long dd), .second, .val (.long la), .second, iv (1 : Int32), rv b170] [(.int to), (.int fr), (.ref b170)] _
              refine XS.iload X172.here hx rfl (hb hby at_163) rfl ?_
              show SS p e below m T172 165 #[iv p1, iv p2, iv p3, iv p4, iv zs, iv fr, iv to, .val (.long dd), .second, .val (.long la), .second, iv (1 : Int32), rv b170] [(.int zs), (.int to), (.int fr), (.ref b170)] _
              exact kk)
            obtain ⟨cq174, kq174, q174a, q174b, q174c⟩ := isOf hZ e172 A170
            obtain ⟨_, _, ⟨T174, L174, k174, n174⟩, -, X174, ⟨Lc174, hQ174, l174, y174, z174⟩, st174⟩ := X172.virtualBack hx (y := (⟨"com/example/hermit_crab/hermitcrab/sim/Topology$Ring", "links", "(III)Z"⟩ : MethodName)) (z := (⟨"com/example/hermit_crab/hermitcrab/sim/Topology$Ring", "links", "(III)Z"⟩ : MethodName)) hown (mvT hZ (hw _ (List.mem_of_getElem? (i := 18) rfl))) (mvT hZ (hw _ (List.mem_of_getElem? (i := 19) rfl))) (notFace_of_selects (args := #[]) (mvT hZ (hw _ (List.mem_of_getElem? (i := 21) rfl)))) (mvT hZ (hw _ (List.mem_of_getElem? (i := 21) rfl))) (mvT hZ (hw _ (List.mem_of_getElem? (i := 20) rfl))) (by decide) (backOf (W := 0) (rm4 l Z a0 hw [] b170 fr to zs h170 n0 Z170 hnz0) hZ (hw _ (List.mem_of_getElem? (i := 22) rfl)) (hw _ (List.mem_of_getElem? (i := 6) rfl)) (by decide) (by decide)) q174a q174c (g := (mkF m 165 #[iv p1, iv p2, iv p3, iv p4, iv zs, iv fr, iv to, .val (.long dd), .second, .val (.long la), .second, iv (1 : Int32), rv b170] [(.int zs), (.int to), (.int fr), (.ref b170)])) rfl (by rw [hml]; rfl) (Steps.refl _) (argsL := [(.int fr), (.int to), (.int zs)]) (rest := []) (lenOf pd_1 rfl) rfl (by show 2 * 0 + _ ≤ _; exact Nat.le_of_eq rfl) (hb hby at_165) (fun _ _ => ⟨rfl, e172, (by decide : 1 + 0 ≤ _), (by decide : 0 + 0 ≤ _)⟩)
            dsimp only [Pt.U, Pt.locs, Pt.cells, Pt.slots] at X174 l174 y174 z174 st174 hQ174
            subst l174 y174 z174
            obtain ⟨rfl, N174q, e174⟩ := hQ174
            have N174 := Fr.app N172 N174q
            have pre177 : ∀ t, SS p e below m T174 170 #[iv p1, iv p2, iv p3, iv p4, iv zs, iv fr, iv to, .val (.long dd), .second, .val (.long la), .second, iv (1 : Int32), rv b170] [(.int (1 : Int32)), (.int (f4 fr to zs))] t → B t := fun t kk => pre173 t (by
              refine st174.trans ?_
              show SS p e below m T174 168 #[iv p1, iv p2, iv p3, iv p4, iv zs, iv fr, iv to, .val (.long dd), .second, .val (.long la), .second, iv (1 : Int32), rv b170] [(.int (f4 fr to zs))] _
              refine XS.iload X174.here hx rfl (hb hby at_168) rfl ?_
              show SS p e below m T174 170 #[iv p1, iv p2, iv p3, iv p4, iv zs, iv fr, iv to, .val (.long dd), .second, .val (.long la), .second, iv (1 : Int32), rv b170] [(.int (1 : Int32)), (.int (f4 fr to zs))] _
              exact kk)
            have hq178 : (f4 fr to zs) = (1 : Int32) := by
              rw [own_links _ _ _ hz hfr hto]
              have u175 := mt (lw_eq dd (1 : Int64)).mpr hc156
              rw [← Int64.toInt_inj] at u175
              have u176 := (lw_eq dd (-1 : Int64)).mp hc168
              rw [← Int64.toInt_inj] at u176
              have J1 : (1 : Int64).toInt = 1 := by decide
              have Jm : (-1 : Int64).toInt = -1 := by decide
              rw [if_pos (by omega)]
            have pre179 : ∀ t, SS p e below m T174 178 #[iv p1, iv p2, iv p3, iv p4, iv zs, iv fr, iv to, .val (.long dd), .second, .val (.long la), .second, iv (1 : Int32), rv b170] [(.int (1 : Int32))] t → B t := fun t kk => pre177 t (by
              refine XS.icmpNo X174.here hx rfl (hb hby at_170) rfl (teq hq178).2 ?_
              show SS p e below m T174 173 #[iv p1, iv p2, iv p3, iv p4, iv zs, iv fr, iv to, .val (.long dd), .second, .val (.long la), .second, iv (1 : Int32), rv b170] [] _
              refine XS.iconst X174.here hx rfl (hb hby at_173) ?_
              show SS p e below m T174 174 #[iv p1, iv p2, iv p3, iv p4, iv zs, iv fr, iv to, .val (.long dd), .second, .val (.long la), .second, iv (1 : Int32), rv b170] [(.int (1 : Int32))] _
              refine XS.goto X174.here hx rfl (pc0 := 174) (pc' := 178) rfl (hb hby at_174) (by decide) (by decide) ?_
              show SS p e below m T174 178 #[iv p1, iv p2, iv p3, iv p4, iv zs, iv fr, iv to, .val (.long dd), .second, .val (.long la), .second, iv (1 : Int32), rv b170] [(.int (1 : Int32))] _
              exact kk)
            obtain ⟨fs, hr, hrun, hended, hW, hsame⟩ := X174.leave (v := some (.int (1 : Int32))) (fun h => by rw [Bd.returns] at h; cases h)
            refine ⟨_, _, hB _ (pre179 _ ?_), hrun, hended, _, _, rfl, ?_, ⟨_, rfl⟩, hW, hsame.mono (by decide) (by decide)⟩
            · exact retN X174 hx (t := .boolean) Bd.returns (by simp) (hb hby at_178) hr
            · exact ⟨rfl, N174⟩
          · have pre180 : ∀ t, SS p e below m s₁ 129 #[iv p1, iv p2, iv p3, iv p4, iv zs, iv fr, iv to, .val (.long dd), .second, .val (.long la), .second, .unset, .unset] [(.int (lcmpW dd la))] t → B t := fun t kk => pre167 t (by
              refine XS.ifNo X0.here hx rfl (hb hby at_121) rfl ((if0 _ _).trans (feq hc168).1) ?_
              show SS p e below m s₁ 124 #[iv p1, iv p2, iv p3, iv p4, iv zs, iv fr, iv to, .val (.long dd), .second, .val (.long la), .second, .unset, .unset] [] _
              refine XS.lload X0.here hx rfl (hb hby at_124) rfl ?_
              show SS p e below m s₁ 126 #[iv p1, iv p2, iv p3, iv p4, iv zs, iv fr, iv to, .val (.long dd), .second, .val (.long la), .second, .unset, .unset] [(.long dd)] _
              refine XS.lload X0.here hx rfl (hb hby at_126) rfl ?_
              show SS p e below m s₁ 128 #[iv p1, iv p2, iv p3, iv p4, iv zs, iv fr, iv to, .val (.long dd), .second, .val (.long la), .second, .unset, .unset] [(.long la), (.long dd)] _
              refine XS.lcmp X0.here hx rfl (hb hby at_128) rfl ?_
              show SS p e below m s₁ 129 #[iv p1, iv p2, iv p3, iv p4, iv zs, iv fr, iv to, .val (.long dd), .second, .val (.long la), .second, .unset, .unset] [(.int (lcmpW dd la))] _
              exact kk)
            by_cases hc181 : (lcmpW dd la) = (0 : Int32)
            · have pre182 : ∀ t, SS p e below m s₁ 148 #[iv p1, iv p2, iv p3, iv p4, iv zs, iv fr, iv to, .val (.long dd), .second, .val (.long la), .second, iv (1 : Int32), .unset] [] t → B t := fun t kk => pre180 t (by
                refine XS.ifYes X0.here hx rfl (pc0 := 129) (pc' := 141) rfl (hb hby at_129) rfl ((if0 _ _).trans (teq hc181).1) (by decide) (by decide) ?_
                show SS p e below m s₁ 141 #[iv p1, iv p2, iv p3, iv p4, iv zs, iv fr, iv to, .val (.long dd), .second, .val (.long la), .second, .unset, .unset] [] _
                refine XS.iconst X0.here hx rfl (hb hby at_141) ?_
                show SS p e below m s₁ 142 #[iv p1, iv p2, iv p3, iv p4, iv zs, iv fr, iv to, .val (.long dd), .second, .val (.long la), .second, .unset, .unset] [(.int (1 : Int32))] _
                refine XS.goto X0.here hx rfl (pc0 := 142) (pc' := 146) rfl (hb hby at_142) (by decide) (by decide) ?_
                show SS p e below m s₁ 146 #[iv p1, iv p2, iv p3, iv p4, iv zs, iv fr, iv to, .val (.long dd), .second, .val (.long la), .second, .unset, .unset] [(.int (1 : Int32))] _
                refine XS.istore X0.here hx rfl (hb hby at_146) rfl (l' := #[iv p1, iv p2, iv p3, iv p4, iv zs, iv fr, iv to, .val (.long dd), .second, .val (.long la), .second, iv (1 : Int32), .unset]) rfl ?_
                show SS p e below m s₁ 148 #[iv p1, iv p2, iv p3, iv p4, iv zs, iv fr, iv to, .val (.long dd), .second, .val (.long la), .second, iv (1 : Int32), .unset] [] _
                exact kk)
              obtain ⟨T183, h183, X183, e183, E183, A183, D183, -, st183⟩ := newO X0 hx hZ hown (hw _ (List.mem_of_getElem? (i := 4) rfl)) (hw _ (List.mem_of_getElem? (i := 5) rfl)) (hw _ (List.mem_of_getElem? (i := 6) rfl)) e0 (g := (mkF m 148 #[iv p1, iv p2, iv p3, iv p4, iv zs, iv fr, iv to, .val (.long dd), .second, .val (.long la), .second, iv (1 : Int32), .unset] [])) rfl (hb hby at_148) (by decide) (by decide)
              obtain ⟨b183, g183⟩ : ∃ z, z = h0.size := ⟨_, rfl⟩
              rw [← g183] at A183 D183 st183
              have g_b183 : n0 ≤ b183 := Nat.le_trans Z0 (Nat.le_of_eq g183.symm)
              have Z183 : n0 ≤ h183.size := Nat.le_trans Z0 E183.1
              have pre184 : ∀ t, SS p e below m T183 152 #[iv p1, iv p2, iv p3, iv p4, iv zs, iv fr, iv to, .val (.long dd), .second, .val (.long la), .second, iv (1 : Int32), .unset] [(.ref b183), (.ref b183)] t → B t := fun t kk => pre182 t (by
                refine st183 _ ?_
                show SS p e below m T183 151 #[iv p1, iv p2, iv p3, iv p4, iv zs, iv fr, iv to, .val (.long dd), .second, .val (.long la), .second, iv (1 : Int32), .unset] [(.ref b183)] _
                refine XS.dup X183.here hx rfl (hb hby at_151) rfl rfl ?_
                show SS p e below m T183 152 #[iv p1, iv p2, iv p3, iv p4, iv zs, iv fr, iv to, .val (.long dd), .second, .val (.long la), .second, iv (1 : Int32), .unset] [(.ref b183), (.ref b183)] _
                exact kk)
              obtain ⟨_, _, ⟨T185, L185, k185, n185⟩, -, X185, ⟨Lc185, hQ185, l185, y185, z185⟩, st185⟩ := X183.specialBack hx (y := (⟨"com/example/hermit_crab/hermitcrab/sim/Topology$Ring", "<init>", "()V"⟩ : MethodName)) rfl hown (mvT hZ (hw _ (List.mem_of_getElem? (i := 7) rfl))) (mvT hZ (hw _ (List.mem_of_getElem? (i := 8) rfl))) (mvT hZ (hw _ (List.mem_of_getElem? (i := 9) rfl))) (by decide) (backOf (W := 1) (rm1 l Z a0 hw [] b183 h183 n0 Z183 ) hZ (hw _ (List.mem_of_getElem? (i := 9) rfl)) (hw _ (List.mem_of_getElem? (i := 6) rfl)) (by decide) (by decide)) (g := (mkF m 152 #[iv p1, iv p2, iv p3, iv p4, iv zs, iv fr, iv to, .val (.long dd), .second, .val (.long la), .second, iv (1 : Int32), .unset] [(.ref b183), (.ref b183)])) rfl (by rw [hml]; rfl) (Steps.refl _) (a := b183) (argsL := []) (rest := [(.ref b183)]) (lenOf pd_0 rfl) rfl (by show 2 * 0 + _ ≤ _; exact Nat.le_of_eq rfl) (hb hby at_152) (fun _ _ => ⟨rfl, e183, (by decide : 1 + 0 ≤ _), (by decide : 0 + 0 ≤ _)⟩)
              dsimp only [Pt.U, Pt.locs, Pt.cells, Pt.slots] at X185 l185 y185 z185 st185 hQ185
              subst l185 y185 z185
              obtain ⟨rfl, N185q, e185⟩ := hQ185
              have N185 := Fr.app N0 N185q
              have pre186 : ∀ t, SS p e below m T185 165 #[iv p1, iv p2, iv p3, iv p4, iv zs, iv fr, iv to, .val (.long dd), .second, .val (.long la), .second, iv (1 : Int32), rv b183] [(.int zs), (.int to), (.int fr), (.ref b183)] t → B t := fun t kk => pre184 t (by
                refine st185.trans ?_
                show SS p e below m T185 155 #[iv p1, iv p2, iv p3, iv p4, iv zs, iv fr, iv to, .val (.long dd), .second, .val (.long la), .second, iv (1 : Int32), .unset] [(.ref b183)] _
                refine XS.astore X185.here hx rfl (hb hby at_155) rfl rfl (l' := #[iv p1, iv p2, iv p3, iv p4, iv zs, iv fr, iv to, .val (.long dd), .second, .val (.long la), .second, iv (1 : Int32), rv b183]) rfl ?_
                show SS p e below m T185 157 #[iv p1, iv p2, iv p3, iv p4, iv zs, iv fr, iv to, .val (.long dd), .second, .val (.long la), .second, iv (1 : Int32), rv b183] [] _
                refine XS.aload X185.here hx rfl (hb hby at_157) rfl rfl ?_
                show SS p e below m T185 159 #[iv p1, iv p2, iv p3, iv p4, iv zs, iv fr, iv to, .val (.long dd), .second, .val (.long la), .second, iv (1 : Int32), rv b183] [(.ref b183)] _
                refine XS.iload X185.here hx rfl (hb hby at_159) rfl ?_
                show SS p e below m T185 161 #[iv p1, iv p2, iv p3, iv p4, iv zs, iv fr, iv to, .val (.long dd), .second, .val (.long la), .second, iv (1 : Int32), rv b183] [(.int fr), (.ref b183)] _
                refine XS.iload X185.here hx rfl (hb hby at_161) rfl ?_
                show SS p e below m T185 163 #[iv p1, iv p2, iv p3, iv p4, iv zs, iv fr, iv to, .val (.long dd), .second, .val (.long la), .second, iv (1 : Int32), rv b183] [(.int to), (.int fr), (.ref b183)] _
                refine XS.iload X185.here hx rfl (hb hby at_163) rfl ?_
                show SS p e below m T185 165 #[iv p1, iv p2, iv p3, iv p4, iv zs, iv fr, iv to, .val (.long dd), .second, .val (.long la), .second, iv (1 : Int32), rv b183] [(.int zs), (.int to), (.int fr), (.ref b183)] _
                exact kk)
              obtain ⟨cq187, kq187, q187a, q187b, q187c⟩ := isOf hZ e185 A183
              obtain ⟨_, _, ⟨T187, L187, k187, n187⟩, -, X187, ⟨Lc187, hQ187, l187, y187, z187⟩, st187⟩ := X185.virtualBack hx (y := (⟨"com/example/hermit_crab/hermitcrab/sim/Topology$Ring", "links", "(III)Z"⟩ : MethodName)) (z := (⟨"com/example/hermit_crab/hermitcrab/sim/Topology$Ring", "links", "(III)Z"⟩ : MethodName)) hown (mvT hZ (hw _ (List.mem_of_getElem? (i := 18) rfl))) (mvT hZ (hw _ (List.mem_of_getElem? (i := 19) rfl))) (notFace_of_selects (args := #[]) (mvT hZ (hw _ (List.mem_of_getElem? (i := 21) rfl)))) (mvT hZ (hw _ (List.mem_of_getElem? (i := 21) rfl))) (mvT hZ (hw _ (List.mem_of_getElem? (i := 20) rfl))) (by decide) (backOf (W := 0) (rm4 l Z a0 hw [] b183 fr to zs h183 n0 Z183 hnz0) hZ (hw _ (List.mem_of_getElem? (i := 22) rfl)) (hw _ (List.mem_of_getElem? (i := 6) rfl)) (by decide) (by decide)) q187a q187c (g := (mkF m 165 #[iv p1, iv p2, iv p3, iv p4, iv zs, iv fr, iv to, .val (.long dd), .second, .val (.long la), .second, iv (1 : Int32), rv b183] [(.int zs), (.int to), (.int fr), (.ref b183)])) rfl (by rw [hml]; rfl) (Steps.refl _) (argsL := [(.int fr), (.int to), (.int zs)]) (rest := []) (lenOf pd_1 rfl) rfl (by show 2 * 0 + _ ≤ _; exact Nat.le_of_eq rfl) (hb hby at_165) (fun _ _ => ⟨rfl, e185, (by decide : 1 + 0 ≤ _), (by decide : 0 + 0 ≤ _)⟩)
              dsimp only [Pt.U, Pt.locs, Pt.cells, Pt.slots] at X187 l187 y187 z187 st187 hQ187
              subst l187 y187 z187
              obtain ⟨rfl, N187q, e187⟩ := hQ187
              have N187 := Fr.app N185 N187q
              have pre191 : ∀ t, SS p e below m T187 170 #[iv p1, iv p2, iv p3, iv p4, iv zs, iv fr, iv to, .val (.long dd), .second, .val (.long la), .second, iv (1 : Int32), rv b183] [(.int (1 : Int32)), (.int (f4 fr to zs))] t → B t := fun t kk => pre186 t (by
                refine st187.trans ?_
                show SS p e below m T187 168 #[iv p1, iv p2, iv p3, iv p4, iv zs, iv fr, iv to, .val (.long dd), .second, .val (.long la), .second, iv (1 : Int32), rv b183] [(.int (f4 fr to zs))] _
                refine XS.iload X187.here hx rfl (hb hby at_168) rfl ?_
                show SS p e below m T187 170 #[iv p1, iv p2, iv p3, iv p4, iv zs, iv fr, iv to, .val (.long dd), .second, .val (.long la), .second, iv (1 : Int32), rv b183] [(.int (1 : Int32)), (.int (f4 fr to zs))] _
                exact kk)
              have hq192 : (f4 fr to zs) = (1 : Int32) := by
                rw [own_links _ _ _ hz hfr hto]
                have u188 := mt (lw_eq dd (1 : Int64)).mpr hc156
                rw [← Int64.toInt_inj] at u188
                have u189 := mt (lw_eq dd (-1 : Int64)).mpr hc168
                rw [← Int64.toInt_inj] at u189
                have u190 := (lw_eq dd la).mp hc181
                rw [← Int64.toInt_inj] at u190
                have J1 : (1 : Int64).toInt = 1 := by decide
                have Jm : (-1 : Int64).toInt = -1 := by decide
                rw [if_pos (by omega)]
              have pre193 : ∀ t, SS p e below m T187 178 #[iv p1, iv p2, iv p3, iv p4, iv zs, iv fr, iv to, .val (.long dd), .second, .val (.long la), .second, iv (1 : Int32), rv b183] [(.int (1 : Int32))] t → B t := fun t kk => pre191 t (by
                refine XS.icmpNo X187.here hx rfl (hb hby at_170) rfl (teq hq192).2 ?_
                show SS p e below m T187 173 #[iv p1, iv p2, iv p3, iv p4, iv zs, iv fr, iv to, .val (.long dd), .second, .val (.long la), .second, iv (1 : Int32), rv b183] [] _
                refine XS.iconst X187.here hx rfl (hb hby at_173) ?_
                show SS p e below m T187 174 #[iv p1, iv p2, iv p3, iv p4, iv zs, iv fr, iv to, .val (.long dd), .second, .val (.long la), .second, iv (1 : Int32), rv b183] [(.int (1 : Int32))] _
                refine XS.goto X187.here hx rfl (pc0 := 174) (pc' := 178) rfl (hb hby at_174) (by decide) (by decide) ?_
                show SS p e below m T187 178 #[iv p1, iv p2, iv p3, iv p4, iv zs, iv fr, iv to, .val (.long dd), .second, .val (.long la), .second, iv (1 : Int32), rv b183] [(.int (1 : Int32))] _
                exact kk)
              obtain ⟨fs, hr, hrun, hended, hW, hsame⟩ := X187.leave (v := some (.int (1 : Int32))) (fun h => by rw [Bd.returns] at h; cases h)
              refine ⟨_, _, hB _ (pre193 _ ?_), hrun, hended, _, _, rfl, ?_, ⟨_, rfl⟩, hW, hsame.mono (by decide) (by decide)⟩
              · exact retN X187 hx (t := .boolean) Bd.returns (by simp) (hb hby at_178) hr
              · exact ⟨rfl, N187⟩
            · have pre194 : ∀ t, SS p e below m s₁ 138 #[iv p1, iv p2, iv p3, iv p4, iv zs, iv fr, iv to, .val (.long dd), .second, .val (.long la), .second, .unset, .unset] [(.int (lcmpW dd (-la)))] t → B t := fun t kk => pre180 t (by
                refine XS.ifNo X0.here hx rfl (hb hby at_129) rfl ((if0 _ _).trans (feq hc181).1) ?_
                show SS p e below m s₁ 132 #[iv p1, iv p2, iv p3, iv p4, iv zs, iv fr, iv to, .val (.long dd), .second, .val (.long la), .second, .unset, .unset] [] _
                refine XS.lload X0.here hx rfl (hb hby at_132) rfl ?_
                show SS p e below m s₁ 134 #[iv p1, iv p2, iv p3, iv p4, iv zs, iv fr, iv to, .val (.long dd), .second, .val (.long la), .second, .unset, .unset] [(.long dd)] _
                refine XS.lload X0.here hx rfl (hb hby at_134) rfl ?_
                show SS p e below m s₁ 136 #[iv p1, iv p2, iv p3, iv p4, iv zs, iv fr, iv to, .val (.long dd), .second, .val (.long la), .second, .unset, .unset] [(.long la), (.long dd)] _
                refine XS.lneg X0.here hx rfl (hb hby at_136) rfl ?_
                show SS p e below m s₁ 137 #[iv p1, iv p2, iv p3, iv p4, iv zs, iv fr, iv to, .val (.long dd), .second, .val (.long la), .second, .unset, .unset] [(.long (-la)), (.long dd)] _
                refine XS.lcmp X0.here hx rfl (hb hby at_137) rfl ?_
                show SS p e below m s₁ 138 #[iv p1, iv p2, iv p3, iv p4, iv zs, iv fr, iv to, .val (.long dd), .second, .val (.long la), .second, .unset, .unset] [(.int (lcmpW dd (-la)))] _
                exact kk)
              by_cases hc195 : (lcmpW dd (-la)) = (0 : Int32)
              · have pre196 : ∀ t, SS p e below m s₁ 148 #[iv p1, iv p2, iv p3, iv p4, iv zs, iv fr, iv to, .val (.long dd), .second, .val (.long la), .second, iv (1 : Int32), .unset] [] t → B t := fun t kk => pre194 t (by
                  refine XS.ifNo X0.here hx rfl (hb hby at_138) rfl ((if0 _ _).trans (teq hc195).2) ?_
                  show SS p e below m s₁ 141 #[iv p1, iv p2, iv p3, iv p4, iv zs, iv fr, iv to, .val (.long dd), .second, .val (.long la), .second, .unset, .unset] [] _
                  refine XS.iconst X0.here hx rfl (hb hby at_141) ?_
                  show SS p e below m s₁ 142 #[iv p1, iv p2, iv p3, iv p4, iv zs, iv fr, iv to, .val (.long dd), .second, .val (.long la), .second, .unset, .unset] [(.int (1 : Int32))] _
                  refine XS.goto X0.here hx rfl (pc0 := 142) (pc' := 146) rfl (hb hby at_142) (by decide) (by decide) ?_
                  show SS p e below m s₁ 146 #[iv p1, iv p2, iv p3, iv p4, iv zs, iv fr, iv to, .val (.long dd), .second, .val (.long la), .second, .unset, .unset] [(.int (1 : Int32))] _
                  refine XS.istore X0.here hx rfl (hb hby at_146) rfl (l' := #[iv p1, iv p2, iv p3, iv p4, iv zs, iv fr, iv to, .val (.long dd), .second, .val (.long la), .second, iv (1 : Int32), .unset]) rfl ?_
                  show SS p e below m s₁ 148 #[iv p1, iv p2, iv p3, iv p4, iv zs, iv fr, iv to, .val (.long dd), .second, .val (.long la), .second, iv (1 : Int32), .unset] [] _
                  exact kk)
                obtain ⟨T197, h197, X197, e197, E197, A197, D197, -, st197⟩ := newO X0 hx hZ hown (hw _ (List.mem_of_getElem? (i := 4) rfl)) (hw _ (List.mem_of_getElem? (i := 5) rfl)) (hw _ (List.mem_of_getElem? (i := 6) rfl)) e0 (g := (mkF m 148 #[iv p1, iv p2, iv p3, iv p4, iv zs, iv fr, iv to, .val (.long dd), .second, .val (.long la), .second, iv (1 : Int32), .unset] [])) rfl (hb hby at_148) (by decide) (by decide)
                obtain ⟨b197, g197⟩ : ∃ z, z = h0.size := ⟨_, rfl⟩
                rw [← g197] at A197 D197 st197
                have g_b197 : n0 ≤ b197 := Nat.le_trans Z0 (Nat.le_of_eq g197.symm)
                have Z197 : n0 ≤ h197.size := Nat.le_trans Z0 E197.1
                have pre198 : ∀ t, SS p e below m T197 152 #[iv p1, iv p2, iv p3, iv p4, iv zs, iv fr, iv to, .val (.long dd), .second, .val (.long la), .second, iv (1 : Int32), .unset] [(.ref b197), (.ref b197)] t → B t := fun t kk => pre196 t (by
                  refine st197 _ ?_
                  show SS p e below m T197 151 #[iv p1, iv p2, iv p3, iv p4, iv zs, iv fr, iv to, .val (.long dd), .second, .val (.long la), .second, iv (1 : Int32), .unset] [(.ref b197)] _
                  refine XS.dup X197.here hx rfl (hb hby at_151) rfl rfl ?_
                  show SS p e below m T197 152 #[iv p1, iv p2, iv p3, iv p4, iv zs, iv fr, iv to, .val (.long dd), .second, .val (.long la), .second, iv (1 : Int32), .unset] [(.ref b197), (.ref b197)] _
                  exact kk)
                obtain ⟨_, _, ⟨T199, L199, k199, n199⟩, -, X199, ⟨Lc199, hQ199, l199, y199, z199⟩, st199⟩ := X197.specialBack hx (y := (⟨"com/example/hermit_crab/hermitcrab/sim/Topology$Ring", "<init>", "()V"⟩ : MethodName)) rfl hown (mvT hZ (hw _ (List.mem_of_getElem? (i := 7) rfl))) (mvT hZ (hw _ (List.mem_of_getElem? (i := 8) rfl))) (mvT hZ (hw _ (List.mem_of_getElem? (i := 9) rfl))) (by decide) (backOf (W := 1) (rm1 l Z a0 hw [] b197 h197 n0 Z197 ) hZ (hw _ (List.mem_of_getElem? (i := 9) rfl)) (hw _ (List.mem_of_getElem? (i := 6) rfl)) (by decide) (by decide)) (g := (mkF m 152 #[iv p1, iv p2, iv p3, iv p4, iv zs, iv fr, iv to, .val (.long dd), .second, .val (.long la), .second, iv (1 : Int32), .unset] [(.ref b197), (.ref b197)])) rfl (by rw [hml]; rfl) (Steps.refl _) (a := b197) (argsL := []) (rest := [(.ref b197)]) (lenOf pd_0 rfl) rfl (by show 2 * 0 + _ ≤ _; exact Nat.le_of_eq rfl) (hb hby at_152) (fun _ _ => ⟨rfl, e197, (by decide : 1 + 0 ≤ _), (by decide : 0 + 0 ≤ _)⟩)
                dsimp only [Pt.U, Pt.locs, Pt.cells, Pt.slots] at X199 l199 y199 z199 st199 hQ199
                subst l199 y199 z199
                obtain ⟨rfl, N199q, e199⟩ := hQ199
                have N199 := Fr.app N0 N199q
                have pre200 : ∀ t, SS p e below m T199 165 #[iv p1, iv p2, iv p3, iv p4, iv zs, iv fr, iv to, .val (.long dd), .second, .val (.long la), .second, iv (1 : Int32), rv b197] [(.int zs), (.int to), (.int fr), (.ref b197)] t → B t := fun t kk => pre198 t (by
                  refine st199.trans ?_
                  show SS p e below m T199 155 #[iv p1, iv p2, iv p3, iv p4, iv zs, iv fr, iv to, .val (.long dd), .second, .val (.long la), .second, iv (1 : Int32), .unset] [(.ref b197)] _
                  refine XS.astore X199.here hx rfl (hb hby at_155) rfl rfl (l' := #[iv p1, iv p2, iv p3, iv p4, iv zs, iv fr, iv to, .val (.long dd), .second, .val (.long la), .second, iv (1 : Int32), rv b197]) rfl ?_
                  show SS p e below m T199 157 #[iv p1, iv p2, iv p3, iv p4, iv zs, iv fr, iv to, .val (.long dd), .second, .val (.long la), .second, iv (1 : Int32), rv b197] [] _
                  refine XS.aload X199.here hx rfl (hb hby at_157) rfl rfl ?_
                  show SS p e below m T199 159 #[iv p1, iv p2, iv p3, iv p4, iv zs, iv fr, iv to, .val (.long dd), .second, .val (.long la), .second, iv (1 : Int32), rv b197] [(.ref b197)] _
                  refine XS.iload X199.here hx rfl (hb hby at_159) rfl ?_
                  show SS p e below m T199 161 #[iv p1, iv p2, iv p3, iv p4, iv zs, iv fr, iv to, .val (.long dd), .second, .val (.long la), .second, iv (1 : Int32), rv b197] [(.int fr), (.ref b197)] _
                  refine XS.iload X199.here hx rfl (hb hby at_161) rfl ?_
                  show SS p e below m T199 163 #[iv p1, iv p2, iv p3, iv p4, iv zs, iv fr, iv to, .val (.long dd), .second, .val (.long la), .second, iv (1 : Int32), rv b197] [(.int to), (.int fr), (.ref b197)] _
                  refine XS.iload X199.here hx rfl (hb hby at_163) rfl ?_
                  show SS p e below m T199 165 #[iv p1, iv p2, iv p3, iv p4, iv zs, iv fr, iv to, .val (.long dd), .second, .val (.long la), .second, iv (1 : Int32), rv b197] [(.int zs), (.int to), (.int fr), (.ref b197)] _
                  exact kk)
                obtain ⟨cq201, kq201, q201a, q201b, q201c⟩ := isOf hZ e199 A197
                obtain ⟨_, _, ⟨T201, L201, k201, n201⟩, -, X201, ⟨Lc201, hQ201, l201, y201, z201⟩, st201⟩ := X199.virtualBack hx (y := (⟨"com/example/hermit_crab/hermitcrab/sim/Topology$Ring", "links", "(III)Z"⟩ : MethodName)) (z := (⟨"com/example/hermit_crab/hermitcrab/sim/Topology$Ring", "links", "(III)Z"⟩ : MethodName)) hown (mvT hZ (hw _ (List.mem_of_getElem? (i := 18) rfl))) (mvT hZ (hw _ (List.mem_of_getElem? (i := 19) rfl))) (notFace_of_selects (args := #[]) (mvT hZ (hw _ (List.mem_of_getElem? (i := 21) rfl)))) (mvT hZ (hw _ (List.mem_of_getElem? (i := 21) rfl))) (mvT hZ (hw _ (List.mem_of_getElem? (i := 20) rfl))) (by decide) (backOf (W := 0) (rm4 l Z a0 hw [] b197 fr to zs h197 n0 Z197 hnz0) hZ (hw _ (List.mem_of_getElem? (i := 22) rfl)) (hw _ (List.mem_of_getElem? (i := 6) rfl)) (by decide) (by decide)) q201a q201c (g := (mkF m 165 #[iv p1, iv p2, iv p3, iv p4, iv zs, iv fr, iv to, .val (.long dd), .second, .val (.long la), .second, iv (1 : Int32), rv b197] [(.int zs), (.int to), (.int fr), (.ref b197)])) rfl (by rw [hml]; rfl) (Steps.refl _) (argsL := [(.int fr), (.int to), (.int zs)]) (rest := []) (lenOf pd_1 rfl) rfl (by show 2 * 0 + _ ≤ _; exact Nat.le_of_eq rfl) (hb hby at_165) (fun _ _ => ⟨rfl, e199, (by decide : 1 + 0 ≤ _), (by decide : 0 + 0 ≤ _)⟩)
                dsimp only [Pt.U, Pt.locs, Pt.cells, Pt.slots] at X201 l201 y201 z201 st201 hQ201
                subst l201 y201 z201
                obtain ⟨rfl, N201q, e201⟩ := hQ201
                have N201 := Fr.app N199 N201q
                have pre206 : ∀ t, SS p e below m T201 170 #[iv p1, iv p2, iv p3, iv p4, iv zs, iv fr, iv to, .val (.long dd), .second, .val (.long la), .second, iv (1 : Int32), rv b197] [(.int (1 : Int32)), (.int (f4 fr to zs))] t → B t := fun t kk => pre200 t (by
                  refine st201.trans ?_
                  show SS p e below m T201 168 #[iv p1, iv p2, iv p3, iv p4, iv zs, iv fr, iv to, .val (.long dd), .second, .val (.long la), .second, iv (1 : Int32), rv b197] [(.int (f4 fr to zs))] _
                  refine XS.iload X201.here hx rfl (hb hby at_168) rfl ?_
                  show SS p e below m T201 170 #[iv p1, iv p2, iv p3, iv p4, iv zs, iv fr, iv to, .val (.long dd), .second, .val (.long la), .second, iv (1 : Int32), rv b197] [(.int (1 : Int32)), (.int (f4 fr to zs))] _
                  exact kk)
                have hq207 : (f4 fr to zs) = (1 : Int32) := by
                  rw [own_links _ _ _ hz hfr hto]
                  have u202 := mt (lw_eq dd (1 : Int64)).mpr hc156
                  rw [← Int64.toInt_inj] at u202
                  have u203 := mt (lw_eq dd (-1 : Int64)).mpr hc168
                  rw [← Int64.toInt_inj] at u203
                  have u204 := mt (lw_eq dd la).mpr hc181
                  rw [← Int64.toInt_inj] at u204
                  have u205 := (lw_eq dd (-la)).mp hc195
                  rw [← Int64.toInt_inj] at u205
                  have J1 : (1 : Int64).toInt = 1 := by decide
                  have Jm : (-1 : Int64).toInt = -1 := by decide
                  rw [if_pos (by omega)]
                have pre208 : ∀ t, SS p e below m T201 178 #[iv p1, iv p2, iv p3, iv p4, iv zs, iv fr, iv to, .val (.long dd), .second, .val (.long la), .second, iv (1 : Int32), rv b197] [(.int (1 : Int32))] t → B t := fun t kk => pre206 t (by
                  refine XS.icmpNo X201.here hx rfl (hb hby at_170) rfl (teq hq207).2 ?_
                  show SS p e below m T201 173 #[iv p1, iv p2, iv p3, iv p4, iv zs, iv fr, iv to, .val (.long dd), .second, .val (.long la), .second, iv (1 : Int32), rv b197] [] _
                  refine XS.iconst X201.here hx rfl (hb hby at_173) ?_
                  show SS p e below m T201 174 #[iv p1, iv p2, iv p3, iv p4, iv zs, iv fr, iv to, .val (.long dd), .second, .val (.long la), .second, iv (1 : Int32), rv b197] [(.int (1 : Int32))] _
                  refine XS.goto X201.here hx rfl (pc0 := 174) (pc' := 178) rfl (hb hby at_174) (by decide) (by decide) ?_
                  show SS p e below m T201 178 #[iv p1, iv p2, iv p3, iv p4, iv zs, iv fr, iv to, .val (.long dd), .second, .val (.long la), .second, iv (1 : Int32), rv b197] [(.int (1 : Int32))] _
                  exact kk)
                obtain ⟨fs, hr, hrun, hended, hW, hsame⟩ := X201.leave (v := some (.int (1 : Int32))) (fun h => by rw [Bd.returns] at h; cases h)
                refine ⟨_, _, hB _ (pre208 _ ?_), hrun, hended, _, _, rfl, ?_, ⟨_, rfl⟩, hW, hsame.mono (by decide) (by decide)⟩
                · exact retN X201 hx (t := .boolean) Bd.returns (by simp) (hb hby at_178) hr
                · exact ⟨rfl, N201⟩
              · have pre209 : ∀ t, SS p e below m s₁ 148 #[iv p1, iv p2, iv p3, iv p4, iv zs, iv fr, iv to, .val (.long dd), .second, .val (.long la), .second, iv (0 : Int32), .unset] [] t → B t := fun t kk => pre194 t (by
                  refine XS.ifYes X0.here hx rfl (pc0 := 138) (pc' := 145) rfl (hb hby at_138) rfl ((if0 _ _).trans (feq hc195).2) (by decide) (by decide) ?_
                  show SS p e below m s₁ 145 #[iv p1, iv p2, iv p3, iv p4, iv zs, iv fr, iv to, .val (.long dd), .second, .val (.long la), .second, .unset, .unset] [] _
                  refine XS.iconst X0.here hx rfl (hb hby at_145) ?_
                  show SS p e below m s₁ 146 #[iv p1, iv p2, iv p3, iv p4, iv zs, iv fr, iv to, .val (.long dd), .second, .val (.long la), .second, .unset, .unset] [(.int (0 : Int32))] _
                  refine XS.istore X0.here hx rfl (hb hby at_146) rfl (l' := #[iv p1, iv p2, iv p3, iv p4, iv zs, iv fr, iv to, .val (.long dd), .second, .val (.long la), .second, iv (0 : Int32), .unset]) rfl ?_
                  show SS p e below m s₁ 148 #[iv p1, iv p2, iv p3, iv p4, iv zs, iv fr, iv to, .val (.long dd), .second, .val (.long la), .second, iv (0 : Int32), .unset] [] _
                  exact kk)
                obtain ⟨T210, h210, X210, e210, E210, A210, D210, -, st210⟩ := newO X0 hx hZ hown (hw _ (List.mem_of_getElem? (i := 4) rfl)) (hw _ (List.mem_of_getElem? (i := 5) rfl)) (hw _ (List.mem_of_getElem? (i := 6) rfl)) e0 (g := (mkF m 148 #[iv p1, iv p2, iv p3, iv p4, iv zs, iv fr, iv to, .val (.long dd), .second, .val (.long la), .second, iv (0 : Int32), .unset] [])) rfl (hb hby at_148) (by decide) (by decide)
                obtain ⟨b210, g210⟩ : ∃ z, z = h0.size := ⟨_, rfl⟩
                rw [← g210] at A210 D210 st210
                have g_b210 : n0 ≤ b210 := Nat.le_trans Z0 (Nat.le_of_eq g210.symm)
                have Z210 : n0 ≤ h210.size := Nat.le_trans Z0 E210.1
                have pre211 : ∀ t, SS p e below m T210 152 #[iv p1, iv p2, iv p3, iv p4, iv zs, iv fr, iv to, .val (.long dd), .second, .val (.long la), .second, iv (0 : Int32), .unset] [(.ref b210), (.ref b210)] t → B t := fun t kk => pre209 t (by
                  refine st210 _ ?_
                  show SS p e below m T210 151 #[iv p1, iv p2, iv p3, iv p4, iv zs, iv fr, iv to, .val (.long dd), .second, .val (.long la), .second, iv (0 : Int32), .unset] [(.ref b210)] _
                  refine XS.dup X210.here hx rfl (hb hby at_151) rfl rfl ?_
                  show SS p e below m T210 152 #[iv p1, iv p2, iv p3, iv p4, iv zs, iv fr, iv to, .val (.long dd), .second, .val (.long la), .second, iv (0 : Int32), .unset] [(.ref b210), (.ref b210)] _
                  exact kk)
                obtain ⟨_, _, ⟨T212, L212, k212, n212⟩, -, X212, ⟨Lc212, hQ212, l212, y212, z212⟩, st212⟩ := X210.specialBack hx (y := (⟨"com/example/hermit_crab/hermitcrab/sim/Topology$Ring", "<init>", "()V"⟩ : MethodName)) rfl hown (mvT hZ (hw _ (List.mem_of_getElem? (i := 7) rfl))) (mvT hZ (hw _ (List.mem_of_getElem? (i := 8) rfl))) (mvT hZ (hw _ (List.mem_of_getElem? (i := 9) rfl))) (by decide) (backOf (W := 1) (rm1 l Z a0 hw [] b210 h210 n0 Z210 ) hZ (hw _ (List.mem_of_getElem? (i := 9) rfl)) (hw _ (List.mem_of_getElem? (i := 6) rfl)) (by decide) (by decide)) (g := (mkF m 152 #[iv p1, iv p2, iv p3, iv p4, iv zs, iv fr, iv to, .val (.long dd), .second, .val (.long la), .second, iv (0 : Int32), .unset] [(.ref b210), (.ref b210)])) rfl (by rw [hml]; rfl) (Steps.refl _) (a := b210) (argsL := []) (rest := [(.ref b210)]) (lenOf pd_0 rfl) rfl (by show 2 * 0 + _ ≤ _; exact Nat.le_of_eq rfl) (hb hby at_152) (fun _ _ => ⟨rfl, e210, (by decide : 1 + 0 ≤ _), (by decide : 0 + 0 ≤ _)⟩)
                dsimp only [Pt.U, Pt.locs, Pt.cells, Pt.slots] at X212 l212 y212 z212 st212 hQ212
                subst l212 y212 z212
                obtain ⟨rfl, N212q, e212⟩ := hQ212
                have N212 := Fr.app N0 N212q
                have pre213 : ∀ t, SS p e below m T212 165 #[iv p1, iv p2, iv p3, iv p4, iv zs, iv fr, iv to, .val (.long dd), .second, .val (.long la), .second, iv (0 : Int32), rv b210] [(.int zs), (.int to), (.int fr), (.ref b210)] t → B t := fun t kk => pre211 t (by
                  refine st212.trans ?_
                  show SS p e below m T212 155 #[iv p1, iv p2, iv p3, iv p4, iv zs, iv fr, iv to, .val (.long dd), .second, .val (.long la), .second, iv (0 : Int32), .unset] [(.ref b210)] _
                  refine XS.astore X212.here hx rfl (hb hby at_155) rfl rfl (l' := #[iv p1, iv p2, iv p3, iv p4, iv zs, iv fr, iv to, .val (.long dd), .second, .val (.long la), .second, iv (0 : Int32), rv b210]) rfl ?_
                  show SS p e below m T212 157 #[iv p1, iv p2, iv p3, iv p4, iv zs, iv fr, iv to, .val (.long dd), .second, .val (.long la), .second, iv (0 : Int32), rv b210] [] _
                  refine XS.aload X212.here hx rfl (hb hby at_157) rfl rfl ?_
                  show SS p e below m T212 159 #[iv p1, iv p2, iv p3, iv p4, iv zs, iv fr, iv to, .val (.long dd), .second, .val (.long la), .second, iv (0 : Int32), rv b210] [(.ref b210)] _
                  refine XS.iload X212.here hx rfl (hb hby at_159) rfl ?_
                  show SS p e below m T212 161 #[iv p1, iv p2, iv p3, iv p4, iv zs, iv fr, iv to, .val (.long dd), .second, .val (.long la), .second, iv (0 : Int32), rv b210] [(.int fr), (.ref b210)] _
                  refine XS.iload X212.here hx rfl (hb hby at_161) rfl ?_
                  show SS p e below m T212 163 #[iv p1, iv p2, iv p3, iv p4, iv zs, iv fr, iv to, .val (.long dd), .second, .val (.long la), .second, iv (0 : Int32), rv b210] [(.int to), (.int fr), (.ref b210)] _
                  refine XS.iload X212.here hx rfl (hb hby at_163) rfl ?_
                  show SS p e below m T212 165 #[iv p1, iv p2, iv p3, iv p4, iv zs, iv fr, iv to, .val (.long dd), .second, .val (.long la), .second, iv (0 : Int32), rv b210] [(.int zs), (.int to), (.int fr), (.ref b210)] _
                  exact kk)
                obtain ⟨cq214, kq214, q214a, q214b, q214c⟩ := isOf hZ e212 A210
                obtain ⟨_, _, ⟨T214, L214, k214, n214⟩, -, X214, ⟨Lc214, hQ214, l214, y214, z214⟩, st214⟩ := X212.virtualBack hx (y := (⟨"com/example/hermit_crab/hermitcrab/sim/Topology$Ring", "links", "(III)Z"⟩ : MethodName)) (z := (⟨"com/example/hermit_crab/hermitcrab/sim/Topology$Ring", "links", "(III)Z"⟩ : MethodName)) hown (mvT hZ (hw _ (List.mem_of_getElem? (i := 18) rfl))) (mvT hZ (hw _ (List.mem_of_getElem? (i := 19) rfl))) (notFace_of_selects (args := #[]) (mvT hZ (hw _ (List.mem_of_getElem? (i := 21) rfl)))) (mvT hZ (hw _ (List.mem_of_getElem? (i := 21) rfl))) (mvT hZ (hw _ (List.mem_of_getElem? (i := 20) rfl))) (by decide) (backOf (W := 0) (rm4 l Z a0 hw [] b210 fr to zs h210 n0 Z210 hnz0) hZ (hw _ (List.mem_of_getElem? (i := 22) rfl)) (hw _ (List.mem_of_getElem? (i := 6) rfl)) (by decide) (by decide)) q214a q214c (g := (mkF m 165 #[iv p1, iv p2, iv p3, iv p4, iv zs, iv fr, iv to, .val (.long dd), .second, .val (.long la), .second, iv (0 : Int32), rv b210] [(.int zs), (.int to), (.int fr), (.ref b210)])) rfl (by rw [hml]; rfl) (Steps.refl _) (argsL := [(.int fr), (.int to), (.int zs)]) (rest := []) (lenOf pd_1 rfl) rfl (by show 2 * 0 + _ ≤ _; exact Nat.le_of_eq rfl) (hb hby at_165) (fun _ _ => ⟨rfl, e212, (by decide : 1 + 0 ≤ _), (by decide : 0 + 0 ≤ _)⟩)
                dsimp only [Pt.U, Pt.locs, Pt.cells, Pt.slots] at X214 l214 y214 z214 st214 hQ214
                subst l214 y214 z214
                obtain ⟨rfl, N214q, e214⟩ := hQ214
                have N214 := Fr.app N212 N214q
                have pre219 : ∀ t, SS p e below m T214 170 #[iv p1, iv p2, iv p3, iv p4, iv zs, iv fr, iv to, .val (.long dd), .second, .val (.long la), .second, iv (0 : Int32), rv b210] [(.int (0 : Int32)), (.int (f4 fr to zs))] t → B t := fun t kk => pre213 t (by
                  refine st214.trans ?_
                  show SS p e below m T214 168 #[iv p1, iv p2, iv p3, iv p4, iv zs, iv fr, iv to, .val (.long dd), .second, .val (.long la), .second, iv (0 : Int32), rv b210] [(.int (f4 fr to zs))] _
                  refine XS.iload X214.here hx rfl (hb hby at_168) rfl ?_
                  show SS p e below m T214 170 #[iv p1, iv p2, iv p3, iv p4, iv zs, iv fr, iv to, .val (.long dd), .second, .val (.long la), .second, iv (0 : Int32), rv b210] [(.int (0 : Int32)), (.int (f4 fr to zs))] _
                  exact kk)
                have hq220 : (f4 fr to zs) = (0 : Int32) := by
                  rw [own_links _ _ _ hz hfr hto]
                  have u215 := mt (lw_eq dd (1 : Int64)).mpr hc156
                  rw [← Int64.toInt_inj] at u215
                  have u216 := mt (lw_eq dd (-1 : Int64)).mpr hc168
                  rw [← Int64.toInt_inj] at u216
                  have u217 := mt (lw_eq dd la).mpr hc181
                  rw [← Int64.toInt_inj] at u217
                  have u218 := mt (lw_eq dd (-la)).mpr hc195
                  rw [← Int64.toInt_inj] at u218
                  have J1 : (1 : Int64).toInt = 1 := by decide
                  have Jm : (-1 : Int64).toInt = -1 := by decide
                  rw [if_neg (by omega)]
                have pre221 : ∀ t, SS p e below m T214 178 #[iv p1, iv p2, iv p3, iv p4, iv zs, iv fr, iv to, .val (.long dd), .second, .val (.long la), .second, iv (0 : Int32), rv b210] [(.int (1 : Int32))] t → B t := fun t kk => pre219 t (by
                  refine XS.icmpNo X214.here hx rfl (hb hby at_170) rfl (teq hq220).2 ?_
                  show SS p e below m T214 173 #[iv p1, iv p2, iv p3, iv p4, iv zs, iv fr, iv to, .val (.long dd), .second, .val (.long la), .second, iv (0 : Int32), rv b210] [] _
                  refine XS.iconst X214.here hx rfl (hb hby at_173) ?_
                  show SS p e below m T214 174 #[iv p1, iv p2, iv p3, iv p4, iv zs, iv fr, iv to, .val (.long dd), .second, .val (.long la), .second, iv (0 : Int32), rv b210] [(.int (1 : Int32))] _
                  refine XS.goto X214.here hx rfl (pc0 := 174) (pc' := 178) rfl (hb hby at_174) (by decide) (by decide) ?_
                  show SS p e below m T214 178 #[iv p1, iv p2, iv p3, iv p4, iv zs, iv fr, iv to, .val (.long dd), .second, .val (.long la), .second, iv (0 : Int32), rv b210] [(.int (1 : Int32))] _
                  exact kk)
                obtain ⟨fs, hr, hrun, hended, hW, hsame⟩ := X214.leave (v := some (.int (1 : Int32))) (fun h => by rw [Bd.returns] at h; cases h)
                refine ⟨_, _, hB _ (pre221 _ ?_), hrun, hended, _, _, rfl, ?_, ⟨_, rfl⟩, hW, hsame.mono (by decide) (by decide)⟩
                · exact retN X214 hx (t := .boolean) Bd.returns (by simp) (hb hby at_178) hr
                · exact ⟨rfl, N214⟩
    · have pre222 : ∀ t, SS p e below m s₁ 64 #[iv p1, iv p2, iv p3, iv p4, iv zs, iv fr, .unset, .val (.long c1), .second, .unset, .unset, .unset, .unset] [(.int (lcmpW c1 (zs.toInt64)))] t → B t := fun t kk => pre76 t (by
        refine XS.ifYes X0.here hx rfl (pc0 := 47) (pc' := 58) rfl (hb hby at_47) rfl ((if0 _ _).trans (flt hc77).2.1) (by decide) (by decide) ?_
        show SS p e below m s₁ 58 #[iv p1, iv p2, iv p3, iv p4, iv zs, iv fr, .unset, .val (.long c1), .second, .unset, .unset, .unset, .unset] [] _
        refine XS.lload X0.here hx rfl (hb hby at_58) rfl ?_
        show SS p e below m s₁ 60 #[iv p1, iv p2, iv p3, iv p4, iv zs, iv fr, .unset, .val (.long c1), .second, .unset, .unset, .unset, .unset] [(.long c1)] _
        refine XS.iload X0.here hx rfl (hb hby at_60) rfl ?_
        show SS p e below m s₁ 62 #[iv p1, iv p2, iv p3, iv p4, iv zs, iv fr, .unset, .val (.long c1), .second, .unset, .unset, .unset, .unset] [(.int zs), (.long c1)] _
        refine XS.i2l X0.here hx rfl (hb hby at_62) rfl ?_
        show SS p e below m s₁ 63 #[iv p1, iv p2, iv p3, iv p4, iv zs, iv fr, .unset, .val (.long c1), .second, .unset, .unset, .unset, .unset] [(.long (zs.toInt64)), (.long c1)] _
        refine XS.lcmp X0.here hx rfl (hb hby at_63) rfl ?_
        show SS p e below m s₁ 64 #[iv p1, iv p2, iv p3, iv p4, iv zs, iv fr, .unset, .val (.long c1), .second, .unset, .unset, .unset, .unset] [(.int (lcmpW c1 (zs.toInt64)))] _
        exact kk)
      by_cases hc223 : (lcmpW c1 (zs.toInt64)) < (0 : Int32)
      · have pre224 : ∀ t, SS p e below m s₁ 78 #[iv p1, iv p2, iv p3, iv p4, iv zs, iv fr, .unset, .val (.long c1), .second, .unset, .unset, .unset, .unset] [(.int (c1.toInt32))] t → B t := fun t kk => pre222 t (by
          refine XS.ifYes X0.here hx rfl (pc0 := 64) (pc' := 75) rfl (hb hby at_64) rfl ((if0 _ _).trans (tlt hc223).1) (by decide) (by decide) ?_
          show SS p e below m s₁ 75 #[iv p1, iv p2, iv p3, iv p4, iv zs, iv fr, .unset, .val (.long c1), .second, .unset, .unset, .unset, .unset] [] _
          refine XS.lload X0.here hx rfl (hb hby at_75) rfl ?_
          show SS p e below m s₁ 77 #[iv p1, iv p2, iv p3, iv p4, iv zs, iv fr, .unset, .val (.long c1), .second, .unset, .unset, .unset, .unset] [(.long c1)] _
          refine XS.l2i X0.here hx rfl (hb hby at_77) rfl ?_
          show SS p e below m s₁ 78 #[iv p1, iv p2, iv p3, iv p4, iv zs, iv fr, .unset, .val (.long c1), .second, .unset, .unset, .unset, .unset] [(.int (c1.toInt32))] _
          exact kk)
        obtain ⟨to, g_to⟩ : ∃ z, z = (c1.toInt32) := ⟨_, rfl⟩
        rw [← g_to] at pre224
        have hto : 0 ≤ to.toInt ∧ to.toInt < zs.toInt := by
          have q1 := mt (lw_lt c1 (0 : Int64)).mpr hc77
          rw [Int64.lt_iff_toInt_lt] at q1
          have q2 := (lw_lt c1 (zs.toInt64)).mp hc223
          rw [Int64.lt_iff_toInt_lt, c_i2l] at q2
          have L0 : (0 : Int64).toInt = 0 := by decide
          have a1 := c_l2i c1
          rw [← g_to] at a1
          have r1 := rng32 to
          have r2 := rng32 zs
          omega
        have pre225 : ∀ t, SS p e below m s₁ 99 #[iv p1, iv p2, iv p3, iv p4, iv zs, iv fr, iv to, .val (.long c1), .second, .unset, .unset, .unset, .unset] [(.long ((to.toInt64) - (fr.toInt64)))] t → B t := fun t kk => pre224 t (by
          refine XS.istore X0.here hx rfl (hb hby at_78) rfl (l' := #[iv p1, iv p2, iv p3, iv p4, iv zs, iv fr, iv to, .val (.long c1), .second, .unset, .unset, .unset, .unset]) rfl ?_
          show SS p e below m s₁ 80 #[iv p1, iv p2, iv p3, iv p4, iv zs, iv fr, iv to, .val (.long c1), .second, .unset, .unset, .unset, .unset] [] _
          refine XS.goto X0.here hx rfl (pc0 := 80) (pc' := 92) rfl (hb hby at_80) (by decide) (by decide) ?_
          show SS p e below m s₁ 92 #[iv p1, iv p2, iv p3, iv p4, iv zs, iv fr, iv to, .val (.long c1), .second, .unset, .unset, .unset, .unset] [] _
          refine XS.iload X0.here hx rfl (hb hby at_92) rfl ?_
          show SS p e below m s₁ 94 #[iv p1, iv p2, iv p3, iv p4, iv zs, iv fr, iv to, .val (.long c1), .second, .unset, .unset, .unset, .unset] [(.int to)] _
          refine XS.i2l X0.here hx rfl (hb hby at_94) rfl ?_
          show SS p e below m s₁ 95 #[iv p1, iv p2, iv p3, iv p4, iv zs, iv fr, iv to, .val (.long c1), .second, .unset, .unset, .unset, .unset] [(.long (to.toInt64))] _
          refine XS.iload X0.here hx rfl (hb hby at_95) rfl ?_
          show SS p e below m s₁ 97 #[iv p1, iv p2, iv p3, iv p4, iv zs, iv fr, iv to, .val (.long c1), .second, .unset, .unset, .unset, .unset] [(.int fr), (.long (to.toInt64))] _
          refine XS.i2l X0.here hx rfl (hb hby at_97) rfl ?_
          show SS p e below m s₁ 98 #[iv p1, iv p2, iv p3, iv p4, iv zs, iv fr, iv to, .val (.long c1), .second, .unset, .unset, .unset, .unset] [(.long (fr.toInt64)), (.long (to.toInt64))] _
          refine XS.lsub X0.here hx rfl (hb hby at_98) rfl ?_
          show SS p e below m s₁ 99 #[iv p1, iv p2, iv p3, iv p4, iv zs, iv fr, iv to, .val (.long c1), .second, .unset, .unset, .unset, .unset] [(.long ((to.toInt64) - (fr.toInt64)))] _
          exact kk)
        obtain ⟨dd, g_dd⟩ : ∃ z, z = ((to.toInt64) - (fr.toInt64)) := ⟨_, rfl⟩
        rw [← g_dd] at pre225
        have hdd : dd.toInt = to.toInt - fr.toInt := by
          have a1 := c_lsub (to.toInt64) (fr.toInt64)
          rw [c_i2l, c_i2l, ← g_dd] at a1
          have r := rng64 dd
          have r2 := rng32 zs
          omega
        have pre226 : ∀ t, SS p e below m s₁ 106 #[iv p1, iv p2, iv p3, iv p4, iv zs, iv fr, iv to, .val (.long dd), .second, .unset, .unset, .unset, .unset] [(.long ((zs.toInt64) - (1 : Int64)))] t → B t := fun t kk => pre225 t (by
          refine XS.lstore X0.here hx rfl (hb hby at_99) rfl (l' := #[iv p1, iv p2, iv p3, iv p4, iv zs, iv fr, iv to, .val (.long dd), .second, .unset, .unset, .unset, .unset]) rfl ?_
          show SS p e below m s₁ 101 #[iv p1, iv p2, iv p3, iv p4, iv zs, iv fr, iv to, .val (.long dd), .second, .unset, .unset, .unset, .unset] [] _
          refine XS.iload X0.here hx rfl (hb hby at_101) rfl ?_
          show SS p e below m s₁ 103 #[iv p1, iv p2, iv p3, iv p4, iv zs, iv fr, iv to, .val (.long dd), .second, .unset, .unset, .unset, .unset] [(.int zs)] _
          refine XS.i2l X0.here hx rfl (hb hby at_103) rfl ?_
          show SS p e below m s₁ 104 #[iv p1, iv p2, iv p3, iv p4, iv zs, iv fr, iv to, .val (.long dd), .second, .unset, .unset, .unset, .unset] [(.long (zs.toInt64))] _
          refine XS.lconst X0.here hx rfl (hb hby at_104) ?_
          show SS p e below m s₁ 105 #[iv p1, iv p2, iv p3, iv p4, iv zs, iv fr, iv to, .val (.long dd), .second, .unset, .unset, .unset, .unset] [(.long (1 : Int64)), (.long (zs.toInt64))] _
          refine XS.lsub X0.here hx rfl (hb hby at_105) rfl ?_
          show SS p e below m s₁ 106 #[iv p1, iv p2, iv p3, iv p4, iv zs, iv fr, iv to, .val (.long dd), .second, .unset, .unset, .unset, .unset] [(.long ((zs.toInt64) - (1 : Int64)))] _
          exact kk)
        obtain ⟨la, g_la⟩ : ∃ z, z = ((zs.toInt64) - (1 : Int64)) := ⟨_, rfl⟩
        rw [← g_la] at pre226
        have hla : la.toInt = zs.toInt - 1 ∧ (-la).toInt = 1 - zs.toInt := by
          have a1 := c_lsub (zs.toInt64) (1 : Int64)
          have L1 : (1 : Int64).toInt = 1 := by decide
          rw [c_i2l, ← g_la] at a1
          have a2 := c_lneg la
          have r := rng64 la
          have r3 := rng64 (-la)
          have r2 := rng32 zs
          omega
        have pre227 : ∀ t, SS p e below m s₁ 112 #[iv p1, iv p2, iv p3, iv p4, iv zs, iv fr, iv to, .val (.long dd), .second, .val (.long la), .second, .unset, .unset] [(.int (lcmpW dd (1 : Int64)))] t → B t := fun t kk => pre226 t (by
          refine XS.lstore X0.here hx rfl (hb hby at_106) rfl (l' := #[iv p1, iv p2, iv p3, iv p4, iv zs, iv fr, iv to, .val (.long dd), .second, .val (.long la), .second, .unset, .unset]) rfl ?_
          show SS p e below m s₁ 108 #[iv p1, iv p2, iv p3, iv p4, iv zs, iv fr, iv to, .val (.long dd), .second, .val (.long la), .second, .unset, .unset] [] _
          refine XS.lload X0.here hx rfl (hb hby at_108) rfl ?_
          show SS p e below m s₁ 110 #[iv p1, iv p2, iv p3, iv p4, iv zs, iv fr, iv to, .val (.long dd), .second, .val (.long la), .second, .unset, .unset] [(.long dd)] _
          refine XS.lconst X0.here hx rfl (hb hby at_110) ?_
          show SS p e below m s₁ 111 #[iv p1, iv p2, iv p3, iv p4, iv zs, iv fr, iv to, .val (.long dd), .second, .val (.long la), .second, .unset, .unset] [(.long (1 : Int64)), (.long dd)] _
          refine XS.lcmp X0.here hx rfl (hb hby at_111) rfl ?_
          show SS p e below m s₁ 112 #[iv p1, iv p2, iv p3, iv p4, iv zs, iv fr, iv to, .val (.long dd), .second, .val (.long la), .second, .unset, .unset] [(.int (lcmpW dd (1 : Int64)))] _
          exact kk)
        by_cases hc228 : (lcmpW dd (1 : Int64)) = (0 : Int32)
        · have pre229 : ∀ t, SS p e below m s₁ 148 #[iv p1, iv p2, iv p3, iv p4, iv zs, iv fr, iv to, .val (.long dd), .second, .val (.long la), .second, iv (1 : Int32), .unset] [] t → B t := fun t kk => pre227 t (by
            refine XS.ifYes X0.here hx rfl (pc0 := 112) (pc' := 141) rfl (hb hby at_112) rfl ((if0 _ _).trans (teq hc228).1) (by decide) (by decide) ?_
            show SS p e below m s₁ 141 #[iv p1, iv p2, iv p3, iv p4, iv zs, iv fr, iv to, .val (.long dd), .second, .val (.long la), .second, .unset, .unset] [] _
            refine XS.iconst X0.here hx rfl (hb hby at_141) ?_
            show SS p e below m s₁ 142 #[iv p1, iv p2, iv p3, iv p4, iv zs, iv fr, iv to, .val (.long dd), .second, .val (.long la), .second, .unset, .unset] [(.int (1 : Int32))] _
            refine XS.goto X0.here hx rfl (pc0 := 142) (pc' := 146) rfl (hb hby at_142) (by decide) (by decide) ?_
            show SS p e below m s₁ 146 #[iv p1, iv p2, iv p3, iv p4, iv zs, iv fr, iv to, .val (.long dd), .second, .val (.long la), .second, .unset, .unset] [(.int (1 : Int32))] _
            refine XS.istore X0.here hx rfl (hb hby at_146) rfl (l' := #[iv p1, iv p2, iv p3, iv p4, iv zs, iv fr, iv to, .val (.long dd), .second, .val (.long la), .second, iv (1 : Int32), .unset]) rfl ?_
            show SS p e below m s₁ 148 #[iv p1, iv p2, iv p3, iv p4, iv zs, iv fr, iv to, .val (.long dd), .second, .val (.long la), .second, iv (1 : Int32), .unset] [] _
            exact kk)
          obtain ⟨T230, h230, X230, e230, E230, A230, D230, -, st230⟩ := newO X0 hx hZ hown (hw _ (List.mem_of_getElem? (i := 4) rfl)) (hw _ (List.mem_of_getElem? (i := 5) rfl)) (hw _ (List.mem_of_getElem? (i := 6) rfl)) e0 (g := (mkF m 148 #[iv p1, iv p2, iv p3, iv p4, iv zs, iv fr, iv to, .val (.long dd), .second, .val (.long la), .second, iv (1 : Int32), .unset] [])) rfl (hb hby at_148) (by decide) (by decide)
          obtain ⟨b230, g230⟩ : ∃ z, z = h0.size := ⟨_, rfl⟩
          rw [← g230] at A230 D230 st230
          have g_b230 : n0 ≤ b230 := Nat.le_trans Z0 (Nat.le_of_eq g230.symm)
          have Z230 : n0 ≤ h230.size := Nat.le_trans Z0 E230.1
          have pre231 : ∀ t, SS p e below m T230 152 #[iv p1, iv p2, iv p3, iv p4, iv zs, iv fr, iv to, .val (.long dd), .second, .val (.long la), .second, iv (1 : Int32), .unset] [(.ref b230), (.ref b230)] t → B t := fun t kk => pre229 t (by
            refine st230 _ ?_
            show SS p e below m T230 151 #[iv p1, iv p2, iv p3, iv p4, iv zs, iv fr, iv to, .val (.long dd), .second, .val (.long la), .second, iv (1 : Int32), .unset] [(.ref b230)] _
            refine XS.dup X230.here hx rfl (hb hby at_151) rfl rfl ?_
            show SS p e below m T230 152 #[iv p1, iv p2, iv p3, iv p4, iv zs, iv fr, iv to, .val (.long dd), .second, .val (.long la), .second, iv (1 : Int32), .unset] [(.ref b230), (.ref b230)] _
            exact kk)
          obtain ⟨_, _, ⟨T232, L232, k232, n232⟩, -, X232, ⟨Lc232, hQ232, l232, y232, z232⟩, st232⟩ := X230.specialBack hx (y := (⟨"com/example/hermit_crab/hermitcrab/sim/Topology$Ring", "<init>", "()V"⟩ : MethodName)) rfl hown (mvT hZ (hw _ (List.mem_of_getElem? (i := 7) rfl))) (mvT hZ (hw _ (List.mem_of_getElem? (i := 8) rfl))) (mvT hZ (hw _ (List.mem_of_getElem? (i := 9) rfl))) (by decide) (backOf (W := 1) (rm1 l Z a0 hw [] b230 h230 n0 Z230 ) hZ (hw _ (List.mem_of_getElem? (i := 9) rfl)) (hw _ (List.mem_of_getElem? (i := 6) rfl)) (by decide) (by decide)) (g := (mkF m 152 #[iv p1, iv p2, iv p3, iv p4, iv zs, iv fr, iv to, .val (.long dd), .second, .val (.long la), .second, iv (1 : Int32), .unset] [(.ref b230), (.ref b230)])) rfl (by rw [hml]; rfl) (Steps.refl _) (a := b230) (argsL := []) (rest := [(.ref b230)]) (lenOf pd_0 rfl) rfl (by show 2 * 0 + _ ≤ _; exact Nat.le_of_eq rfl) (hb hby at_152) (fun _ _ => ⟨rfl, e230, (by decide : 1 + 0 ≤ _), (by decide : 0 + 0 ≤ _)⟩)
          dsimp only [Pt.U, Pt.locs, Pt.cells, Pt.slots] at X232 l232 y232 z232 st232 hQ232
          subst l232 y232 z232
          obtain ⟨rfl, N232q, e232⟩ := hQ232
          have N232 := Fr.app N0 N232q
          have pre233 : ∀ t, SS p e below m T232 165 #[iv p1, iv p2, iv p3, iv p4, iv zs, iv fr, iv to, .val (.long dd), .second, .val (.long la), .second, iv (1 : Int32), rv b230] [(.int zs), (.int to), (.int fr), (.ref b230)] t → B t := fun t kk => pre231 t (by
            refine st232.trans ?_
            show SS p e below m T232 155 #[iv p1, iv p2, iv p3, iv p4, iv zs, iv fr, iv to, .val (.long dd), .second, .val (.long la), .second, iv (1 : Int32), .unset] [(.ref b230)] _
            refine XS.astore X232.here hx rfl (hb hby at_155) rfl rfl (l' := #[iv p1, iv p2, iv p3, iv p4, iv zs, iv fr, iv to, .val (.long dd), .second, .val (.long la), .second, iv (1 : Int32), rv b230]) rfl ?_
            show SS p e below m T232 157 #[iv p1, iv p2, iv p3, iv p4, iv zs, iv fr, iv to, .val (.long dd), .second, .val (.long la), .second, iv (1 : Int32), rv b230] [] _
            refine XS.aload X232.here hx rfl (hb hby at_157) rfl rfl ?_
            show SS p e below m T232 159 #[iv p1, iv p2, iv p3, iv p4, iv zs, iv fr, iv to, .val (.long dd), .second, .val (.long la), .second, iv (1 : Int32), rv b230] [(.ref b230)] _
            refine XS.iload X232.here hx rfl (hb hby at_159) rfl ?_
            show SS p e below m T232 161 #[iv p1, iv p2, iv p3, iv p4, iv zs, iv fr, iv to, .val (.long dd), .second, .val (.long la), .second, iv (1 : Int32), rv b230] [(.int fr), (.ref b230)] _
            refine XS.iload X232.here hx rfl (hb hby at_161) rfl ?_
            show SS p e below m T232 163 #[iv p1, iv p2, iv p3, iv p4, iv zs, iv fr, iv to, .val (.long dd), .second, .val (.long la), .second, iv (1 : Int32), rv b230] [(.int to), (.int fr), (.ref b230)] _
            refine XS.iload X232.here hx rfl (hb hby at_163) rfl ?_
            show SS p e below m T232 165 #[iv p1, iv p2, iv p3, iv p4, iv zs, iv fr, iv to, .val (.long dd), .second, .val (.long la), .second, iv (1 : Int32), rv b230] [(.int zs), (.int to), (.int fr), (.ref b230)] _
            exact kk)
          obtain ⟨cq234, kq234, q234a, q234b, q234c⟩ := isOf hZ e232 A230
          obtain ⟨_, _, ⟨T234, L234, k234, n234⟩, -, X234, ⟨Lc234, hQ234, l234, y234, z234⟩, st234⟩ := X232.virtualBack hx (y := (⟨"com/example/hermit_crab/hermitcrab/sim/Topology$Ring", "links", "(III)Z"⟩ : MethodName)) (z := (⟨"com/example/hermit_crab/hermitcrab/sim/Topology$Ring", "links", "(III)Z"⟩ : MethodName)) hown (mvT hZ (hw _ (List.mem_of_getElem? (i := 18) rfl))) (mvT hZ (hw _ (List.mem_of_getElem? (i := 19) rfl))) (notFace_of_selects (args := #[]) (mvT hZ (hw _ (List.mem_of_getElem? (i := 21) rfl)))) (mvT hZ (hw _ (List.mem_of_getElem? (i := 21) rfl))) (mvT hZ (hw _ (List.mem_of_getElem? (i := 20) rfl))) (by decide) (backOf (W := 0) (rm4 l Z a0 hw [] b230 fr to zs h230 n0 Z230 hnz0) hZ (hw _ (List.mem_of_getElem? (i := 22) rfl)) (hw _ (List.mem_of_getElem? (i := 6) rfl)) (by decide) (by decide)) q234a q234c (g := (mkF m 165 #[iv p1, iv p2, iv p3, iv p4, iv zs, iv fr, iv to, .val (.long dd), .second, .val (.long la), .second, iv (1 : Int32), rv b230] [(.int zs), (.int to), (.int fr), (.ref b230)])) rfl (by rw [hml]; rfl) (Steps.refl _) (argsL := [(.int fr), (.int to), (.int zs)]) (rest := []) (lenOf pd_1 rfl) rfl (by show 2 * 0 + _ ≤ _; exact Nat.le_of_eq rfl) (hb hby at_165) (fun _ _ => ⟨rfl, e232, (by decide : 1 + 0 ≤ _), (by decide : 0 + 0 ≤ _)⟩)
          dsimp only [Pt.U, Pt.locs, Pt.cells, Pt.slots] at X234 l234 y234 z234 st234 hQ234
          subst l234 y234 z234
          obtain ⟨rfl, N234q, e234⟩ := hQ234
          have N234 := Fr.app N232 N234q
          have pre236 : ∀ t, SS p e below m T234 170 #[iv p1, iv p2, iv p3, iv p4, iv zs, iv fr, iv to, .val (.long dd), .second, .val (.long la), .second, iv (1 : Int32), rv b230] [(.int (1 : Int32)), (.int (f4 fr to zs))] t → B t := fun t kk => pre233 t (by
            refine st234.trans ?_
            show SS p e below m T234 168 #[iv p1, iv p2, iv p3, iv p4, iv zs, iv fr, iv to, .val (.long dd), .second, .val (.long la), .second, iv (1 : Int32), rv b230] [(.int (f4 fr to zs))] _
            refine XS.iload X234.here hx rfl (hb hby at_168) rfl ?_
            show SS p e below m T234 170 #[iv p1, iv p2, iv p3, iv p4, iv zs, iv fr, iv to, .val (.long dd), .second, .val (.long la), .second, iv (1 : Int32), rv b230] [(.int (1 : Int32)), (.int (f4 fr to zs))] _
            exact kk)
          have hq237 : (f4 fr to zs) = (1 : Int32) := by
            rw [own_links _ _ _ hz hfr hto]
            have u235 := (lw_eq dd (1 : Int64)).mp hc228
            rw [← Int64.toInt_inj] at u235
            have J1 : (1 : Int64).toInt = 1 := by decide
            have Jm : (-1 : Int64).toInt = -1 := by decide
            rw [if_pos (by omega)]
          have pre238 : ∀ t, SS p e below m T234 178 #[iv p1, iv p2, iv p3, iv p4, iv zs, iv fr, iv to, .val (.long dd), .second, .val (.long la), .second, iv (1 : Int32), rv b230] [(.int (1 : Int32))] t → B t := fun t kk => pre236 t (by
            refine XS.icmpNo X234.here hx rfl (hb hby at_170) rfl (teq hq237).2 ?_
            show SS p e below m T234 173 #[iv p1, iv p2, iv p3, iv p4, iv zs, iv fr, iv to, .val (.long dd), .second, .val (.long la), .second, iv (1 : Int32), rv b230] [] _
            refine XS.iconst X234.here hx rfl (hb hby at_173) ?_
            show SS p e below m T234 174 #[iv p1, iv p2, iv p3, iv p4, iv zs, iv fr, iv to, .val (.long dd), .second, .val (.long la), .second, iv (1 : Int32), rv b230] [(.int (1 : Int32))] _
            refine XS.goto X234.here hx rfl (pc0 := 174) (pc' := 178) rfl (hb hby at_174) (by decide) (by decide) ?_
            show SS p e below m T234 178 #[iv p1, iv p2, iv p3, iv p4, iv zs, iv fr, iv to, .val (.long dd), .second, .val (.long la), .second, iv (1 : Int32), rv b230] [(.int (1 : Int32))] _
            exact kk)
          obtain ⟨fs, hr, hrun, hended, hW, hsame⟩ := X234.leave (v := some (.int (1 : Int32))) (fun h => by rw [Bd.returns] at h; cases h)
          refine ⟨_, _, hB _ (pre238 _ ?_), hrun, hended, _, _, rfl, ?_, ⟨_, rfl⟩, hW, hsame.mono (by decide) (by decide)⟩
          · exact retN X234 hx (t := .boolean) Bd.returns (by simp) (hb hby at_178) hr
          · exact ⟨rfl, N234⟩
        · have pre239 : ∀ t, SS p e below m s₁ 121 #[iv p1, iv p2, iv p3, iv p4, iv zs, iv fr, iv to, .val (.long dd), .second, .val (.long la), .second, .unset, .unset] [(.int (lcmpW dd (-1 : Int64)))] t → B t := fun t kk => pre227 t (by
            refine XS.ifNo X0.here hx rfl (hb hby at_112) rfl ((if0 _ _).trans (feq hc228).1) ?_
            show SS p e below m s₁ 115 #[iv p1, iv p2, iv p3, iv p4, iv zs, iv fr, iv to, .val (.long dd), .second, .val (.long la), .second, .unset, .unset] [] _
            refine XS.lload X0.here hx rfl (hb hby at_115) rfl ?_
            show SS p e below m s₁ 117 #[iv p1, iv p2, iv p3, iv p4, iv zs, iv fr, iv to, .val (.long dd), .second, .val (.long la), .second, .unset, .unset] [(.long dd)] _
            refine X0.ldc2Long hx hown (mvT hZ (hw _ (List.mem_of_getElem? (i := 3) rfl))) (g := (mkF m 117 #[iv p1, iv p2, iv p3, iv p4, iv zs, iv fr, iv to, .val (.long dd), .second, .val (.long la), .second, .unset, .unset] [(.long dd)])) rfl (hb hby at_117) _ ?_
            show SS p e below m s₁ 120 #[iv p1, iv p2, iv p3, iv p4, iv zs, iv fr, iv to, .val (.long dd), .second, .val (.long la), .second, .unset, .unset] [(.long (-1 : Int64)), (.long dd)] _
            refine XS.lcmp X0.here hx rfl (hb hby at_120) rfl ?_
            show SS p e below m s₁ 121 #[iv p1, iv p2, iv p3, iv p4, iv zs, iv fr, iv to, .val (.long dd), .second, .val (.long la), .second, .unset, .unset] [(.int (lcmpW dd (-1 : Int64)))] _
            exact kk)
          by_cases hc240 : (lcmpW dd (-1 : Int64)) = (0 : Int32)
          · have pre241 : ∀ t, SS p e below m s₁ 148 #[iv p1, iv p2, iv p3, iv p4, iv zs, iv fr, iv to, .val (.long dd), .second, .val (.long la), .second, iv (1 : Int32), .unset] [] t → B t := fun t kk => pre239 t (by
              refine XS.ifYes X0.here hx rfl (pc0 := 121) (pc' := 141) rfl (hb hby at_121) rfl ((if0 _ _).trans (teq hc240).1) (by decide) (by decide) ?_
              show SS p e below m s₁ 141 #[iv p1, iv p2, iv p3, iv p4, iv zs, iv fr, iv to, .val (.long dd), .second, .val (.long la), .second, .unset, .unset] [] _
              refine XS.iconst X0.here hx rfl (hb hby at_141) ?_
              show SS p e below m s₁ 142 #[iv p1, iv p2, iv p3, iv p4, iv zs, iv fr, iv to, .val (.long dd), .second, .val (.long la), .second, .unset, .unset] [(.int (1 : Int32))] _
              refine XS.goto X0.here hx rfl (pc0 := 142) (pc' := 146) rfl (hb hby at_142) (by decide) (by decide) ?_
              show SS p e below m s₁ 146 #[iv p1, iv p2, iv p3, iv p4, iv zs, iv fr, iv to, .val (.long dd), .second, .val (.long la), .second, .unset, .unset] [(.int (1 : Int32))] _
              refine XS.istore X0.here hx rfl (hb hby at_146) rfl (l' := #[iv p1, iv p2, iv p3, iv p4, iv zs, iv fr, iv to, .val (.long dd), .second, .val (.long la), .second, iv (1 : Int32), .unset]) rfl ?_
              show SS p e below m s₁ 148 #[iv p1, iv p2, iv p3, iv p4, iv zs, iv fr, iv to, .val (.long dd), .second, .val (.long la), .second, iv (1 : Int32), .unset] [] _
              exact kk)
            obtain ⟨T242, h242, X242, e242, E242, A242, D242, -, st242⟩ := newO X0 hx hZ hown (hw _ (List.mem_of_getElem? (i := 4) rfl)) (hw _ (List.mem_of_getElem? (i := 5) rfl)) (hw _ (List.mem_of_getElem? (i := 6) rfl)) e0 (g := (mkF m 148 #[iv p1, iv p2, iv p3, iv p4, iv zs, iv fr, iv to, .val (.long dd), .second, .val (.long la), .second, iv (1 : Int32), .unset] [])) rfl (hb hby at_148) (by decide) (by decide)
            obtain ⟨b242, g242⟩ : ∃ z, z = h0.size := ⟨_, rfl⟩
            rw [← g242] at A242 D242 st242
            have g_b242 : n0 ≤ b242 := Nat.le_trans Z0 (Nat.le_of_eq g242.symm)
            have Z242 : n0 ≤ h242.size := Nat.le_trans Z0 E242.1
            have pre243 : ∀ t, SS p e below m T242 152 #[iv p1, iv p2, iv p3, iv p4, iv zs, iv fr, iv to, .val (.long dd), .second, .val (.long la), .second, iv (1 : Int32), .unset] [(.ref b242), (.ref b242)] t → B t := fun t kk => pre241 t (by
              refine st242 _ ?_
              show SS p e below m T242 151 #[iv p1, iv p2, iv p3, iv p4, iv zs, iv fr, iv to, .val (.long dd), .second, .val (.long la), .second, iv (1 : Int32), .unset] [(.ref b242)] _
              refine XS.dup X242.here hx rfl (hb hby at_151) rfl rfl ?_
              show SS p e below m T242 152 #[iv p1, iv p2, iv p3, iv p4, iv zs, iv fr, iv to, .val (.long dd), .second, .val (.long la), .second, iv (1 : Int32), .unset] [(.ref b242), (.ref b242)] _
              exact kk)
            obtain ⟨_, _, ⟨T244, L244, k244, n244⟩, -, X244, ⟨Lc244, hQ244, l244, y244, z244⟩, st244⟩ := X242.specialBack hx (y := (⟨"com/example/hermit_crab/hermitcrab/sim/Topology$Ring", "<init>", "()V"⟩ : MethodName)) rfl hown (mvT hZ (hw _ (List.mem_of_getElem? (i := 7) rfl))) (mvT hZ (hw _ (List.mem_of_getElem? (i := 8) rfl))) (mvT hZ (hw _ (List.mem_of_getElem? (i := 9) rfl))) (by decide) (backOf (W := 1) (rm1 l Z a0 hw [] b242 h242 n0 Z242 ) hZ (hw _ (List.mem_of_getElem? (i := 9) rfl)) (hw _ (List.mem_of_getElem? (i := 6) rfl)) (by decide) (by decide)) (g := (mkF m 152 #[iv p1, iv p2, iv p3, iv p4, iv zs, iv fr, iv to, .val (.long dd), .second, .val (.long la), .second, iv (1 : Int32), .unset] [(.ref b242), (.ref b242)])) rfl (by rw [hml]; rfl) (Steps.refl _) (a := b242) (argsL := []) (rest := [(.ref b242)]) (lenOf pd_0 rfl) rfl (by show 2 * 0 + _ ≤ _; exact Nat.le_of_eq rfl) (hb hby at_152) (fun _ _ => ⟨rfl, e242, (by decide : 1 + 0 ≤ _), (by decide : 0 + 0 ≤ _)⟩)
            dsimp only [Pt.U, Pt.locs, Pt.cells, Pt.slots] at X244 l244 y244 z244 st244 hQ244
            subst l244 y244 z244
            obtain ⟨rfl, N244q, e244⟩ := hQ244
            have N244 := Fr.app N0 N244q
            have pre245 : ∀ t, SS p e below m T244 165 #[iv p1, iv p2, iv p3, iv p4, iv zs, iv fr, iv to, .val (.long dd), .second, .val (.long la), .second, iv (1 : Int32), rv b242] [(.int zs), (.int to), (.int fr), (.ref b242)] t → B t := fun t kk => pre243 t (by
              refine st244.trans ?_
              show SS p e below m T244 155 #[iv p1, iv p2, iv p3, iv p4, iv zs, iv fr, iv to, .val (.long dd), .second, .val (.long la), .second, iv (1 : Int32), .unset] [(.ref b242)] _
              refine XS.astore X244.here hx rfl (hb hby at_155) rfl rfl (l' := #[iv p1, iv p2, iv p3, iv p4, iv zs, iv fr, iv to, .val (.long dd), .second, .val (.long la), .second, iv (1 : Int32), rv b242]) rfl ?_
              show SS p e below m T244 157 #[iv p1, iv p2, iv p3, iv p4, iv zs, iv fr, iv to, .val (.long dd), .second, .val (.long la), .second, iv (1 : Int32), rv b242] [] _
              refine XS.aload X244.here hx rfl (hb hby at_157) rfl rfl ?_
              show SS p e below m T244 159 #[iv p1, iv p2, iv p3, iv p4, iv zs, iv fr, iv to, .val (.long dd), .second, .val (.long la), .second, iv (1 : Int32), rv b242] [(.ref b242)] _
              refine XS.iload X244.here hx rfl (hb hby at_159) rfl ?_
              show SS p e below m T244 161 #[iv p1, iv p2, iv p3, iv p4, iv zs, iv fr, iv to, .val (.long dd), .second, .val (.long la), .second, iv (1 : Int32), rv b242] [(.int fr), (.ref b242)] _
              refine XS.iload X244.here hx rfl (hb hby at_161) rfl ?_
              show SS p e below m T244 163 #[iv p1, iv p2, iv p3, iv p4, iv zs, iv fr, iv to, .val (.long dd), .second, .val (.long la), .second, iv (1 : Int32), rv b242] [(.int to), (.int fr), (.ref b242)] _
              refine XS.iload X244.here hx rfl (hb hby at_163) rfl ?_
              show SS p e below m T244 165 #[iv p1, iv p2, iv p3, iv p4, iv zs, iv fr, iv to, .val (.long dd), .second, .val (.long la), .second, iv (1 : Int32), rv b242] [(.int zs), (.int to), (.int fr), (.ref b242)] _
              exact kk)
            obtain ⟨cq246, kq246, q246a, q246b, q246c⟩ := isOf hZ e244 A242
            obtain ⟨_, _, ⟨T246, L246, k246, n246⟩, -, X246, ⟨Lc246, hQ246, l246, y246, z246⟩, st246⟩ := X244.virtualBack hx (y := (⟨"com/example/hermit_crab/hermitcrab/sim/Topology$Ring", "links", "(III)Z"⟩ : MethodName)) (z := (⟨"com/example/hermit_crab/hermitcrab/sim/Topology$Ring", "links", "(III)Z"⟩ : MethodName)) hown (mvT hZ (hw _ (List.mem_of_getElem? (i := 18) rfl))) (mvT hZ (hw _ (List.mem_of_getElem? (i := 19) rfl))) (notFace_of_selects (args := #[]) (mvT hZ (hw _ (List.mem_of_getElem? (i := 21) rfl)))) (mvT hZ (hw _ (List.mem_of_getElem? (i := 21) rfl))) (mvT hZ (hw _ (List.mem_of_getElem? (i := 20) rfl))) (by decide) (backOf (W := 0) (rm4 l Z a0 hw [] b242 fr to zs h242 n0 Z242 hnz0) hZ (hw _ (List.mem_of_getElem? (i := 22) rfl)) (hw _ (List.mem_of_getElem? (i := 6) rfl)) (by decide) (by decide)) q246a q246c (g := (mkF m 165 #[iv p1, iv p2, iv p3, iv p4, iv zs, iv fr, iv to, .val (.long dd), .second, .val (.long la), .second, iv (1 : Int32), rv b242] [(.int zs), (.int to), (.int fr), (.ref b242)])) rfl (by rw [hml]; rfl) (Steps.refl _) (argsL := [(.int fr), (.int to), (.int zs)]) (rest := []) (lenOf pd_1 rfl) rfl (by show 2 * 0 + _ ≤ _; exact Nat.le_of_eq rfl) (hb hby at_165) (fun _ _ => ⟨rfl, e244, (by decide : 1 + 0 ≤ _), (by decide : 0 + 0 ≤ _)⟩)
            dsimp only [Pt.U, Pt.locs, Pt.cells, Pt.slots] at X246 l246 y246 z246 st246 hQ246
            subst l246 y246 z246
            obtain ⟨rfl, N246q, e246⟩ := hQ246
            have N246 := Fr.app N244 N246q
            have pre249 : ∀ t, SS p e below m T246 170 #[iv p1, iv p2, iv p3, iv p4, iv zs, iv fr, iv to, .val (.long dd), .second, .val (.long la), .second, iv (1 : Int32), rv b242] [(.int (1 : Int32)), (.int (f4 fr to zs))] t → B t := fun t kk => pre245 t (by
              refine st246.trans ?_
              show SS p e below m T246 168 #[iv p1, iv p2, iv p3, iv p4, iv zs, iv fr, iv to, .val (.long dd), .second, .val (.long la), .second, iv (1 : Int32), rv b242] [(.int (f4 fr to zs))] _
              refine XS.iload X246.here hx rfl (hb hby at_168) rfl ?_
              show SS p e below m T246 170 #[iv p1, iv p2, iv p3, iv p4, iv zs, iv fr, iv to, .val (.long dd), .second, .val (.long la), .second, iv (1 : Int32), rv b242] [(.int (1 : Int32)), (.int (f4 fr to zs))] _
              exact kk)
            have hq250 : (f4 fr to zs) = (1 : Int32) := by
              rw [own_links _ _ _ hz hfr hto]
              have u247 := mt (lw_eq dd (1 : Int64)).mpr hc228
              rw [← Int64.toInt_inj] at u247
              have u248 := (lw_eq dd (-1 : Int64)).mp hc240
              rw [← Int64.toInt_inj] at u248
              have J1 : (1 : Int64).toInt = 1 := by decide
              have Jm : (-1 : Int64).toInt = -1 := by decide
              rw [if_pos (by omega)]
            have pre251 : ∀ t, SS p e below m T246 178 #[iv p1, iv p2, iv p3, iv p4, iv zs, iv fr, iv to, .val (.long dd), .second, .val (.long la), .second, iv (1 : Int32), rv b242] [(.int (1 : Int32))] t → B t := fun t kk => pre249 t (by
              refine XS.icmpNo X246.here hx rfl (hb hby at_170) rfl (teq hq250).2 ?_
              show SS p e below m T246 173 #[iv p1, iv p2, iv p3, iv p4, iv zs, iv fr, iv to, .val (.long dd), .second, .val (.long la), .second, iv (1 : Int32), rv b242] [] _
              refine XS.iconst X246.here hx rfl (hb hby at_173) ?_
              show SS p e below m T246 174 #[iv p1, iv p2, iv p3, iv p4, iv zs, iv fr, iv to, .val (.long dd), .second, .val (.long la), .second, iv (1 : Int32), rv b242] [(.int (1 : Int32))] _
              refine XS.goto X246.here hx rfl (pc0 := 174) (pc' := 178) rfl (hb hby at_174) (by decide) (by decide) ?_
              show SS p e below m T246 178 #[iv p1, iv p2, iv p3, iv p4, iv zs, iv fr, iv to, .val (.long dd), .second, .val (.long la), .second, iv (1 : Int32), rv b242] [(.int (1 : Int32))] _
              exact kk)
            obtain ⟨fs, hr, hrun, hended, hW, hsame⟩ := X246.leave (v := some (.int (1 : Int32))) (fun h => by rw [Bd.returns] at h; cases h)
            refine ⟨_, _, hB _ (pre251 _ ?_), hrun, hended, _, _, rfl, ?_, ⟨_, rfl⟩, hW, hsame.mono (by decide) (by decide)⟩
            · exact retN X246 hx (t := .boolean) Bd.returns (by simp) (hb hby at_178) hr
            · exact ⟨rfl, N246⟩
          · have pre252 : ∀ t, SS p e below m s₁ 129 #[iv p1, iv p2, iv p3, iv p4, iv zs, iv fr, iv to, .val (.long dd), .second, .val (.long la), .second, .unset, .unset] [(.int (lcmpW dd la))] t → B t := fun t kk => pre239 t (by
              refine XS.ifNo X0.here hx rfl (hb hby at_121) rfl ((if0 _ _).trans (feq hc240).1) ?_
              show SS p e below m s₁ 124 #[iv p1, iv p2, iv p3, iv p4, iv zs, iv fr, iv to, .val (.long dd), .second, .val (.long la), .second, .unset, .unset] [] _
              refine XS.lload X0.here hx rfl (hb hby at_124) rfl ?_
              show SS p e below m s₁ 126 #[iv p1, iv p2, iv p3, iv p4, iv zs, iv fr, iv to, .val (.long dd), .second, .val (.long la), .second, .unset, .unset] [(.long dd)] _
              refine XS.lload X0.here hx rfl (hb hby at_126) rfl ?_
              show SS p e below m s₁ 128 #[iv p1, iv p2, iv p3, iv p4, iv zs, iv fr, iv to, .val (.long dd), .second, .val (.long la), .second, .unset, .unset] [(.long la), (.long dd)] _
              refine XS.lcmp X0.here hx rfl (hb hby at_128) rfl ?_
              show SS p e below m s₁ 129 #[iv p1, iv p2, iv p3, iv p4, iv zs, iv fr, iv to, .val (.long dd), .second, .val (.long la), .second, .unset, .unset] [(.int (lcmpW dd la))] _
              exact kk)
            by_cases hc253 : (lcmpW dd la) = (0 : Int32)
            · have pre254 : ∀ t, SS p e below m s₁ 148 #[iv p1, iv p2, iv p3, iv p4, iv zs, iv fr, iv to, .val (.long dd), .second, .val (.long la), .second, iv (1 : Int32), .unset] [] t → B t := fun t kk => pre252 t (by
                refine XS.ifYes X0.here hx rfl (pc0 := 129) (pc' := 141) rfl (hb hby at_129) rfl ((if0 _ _).trans (teq hc253).1) (by decide) (by decide) ?_
                show SS p e below m s₁ 141 #[iv p1, iv p2, iv p3, iv p4, iv zs, iv fr, iv to, .val (.long dd), .second, .val (.long la), .second, .unset, .unset] [] _
                refine XS.iconst X0.here hx rfl (hb hby at_141) ?_
                show SS p e below m s₁ 142 #[iv p1, iv p2, iv p3, iv p4, iv zs, iv fr, iv to, .val (.long dd), .second, .val (.long la), .second, .unset, .unset] [(.int (1 : Int32))] _
                refine XS.goto X0.here hx rfl (pc0 := 142) (pc' := 146) rfl (hb hby at_142) (by decide) (by decide) ?_
                show SS p e below m s₁ 146 #[iv p1, iv p2, iv p3, iv p4, iv zs, iv fr, iv to, .val (.long dd), .second, .val (.long la), .second, .unset, .unset] [(.int (1 : Int32))] _
                refine XS.istore X0.here hx rfl (hb hby at_146) rfl (l' := #[iv p1, iv p2, iv p3, iv p4, iv zs, iv fr, iv to, .val (.long dd), .second, .val (.long la), .second, iv (1 : Int32), .unset]) rfl ?_
                show SS p e below m s₁ 148 #[iv p1, iv p2, iv p3, iv p4, iv zs, iv fr, iv to, .val (.long dd), .second, .val (.long la), .second, iv (1 : Int32), .unset] [] _
                exact kk)
              obtain ⟨T255, h255, X255, e255, E255, A255, D255, -, st255⟩ := newO X0 hx hZ hown (hw _ (List.mem_of_getElem? (i := 4) rfl)) (hw _ (List.mem_of_getElem? (i := 5) rfl)) (hw _ (List.mem_of_getElem? (i := 6) rfl)) e0 (g := (mkF m 148 #[iv p1, iv p2, iv p3, iv p4, iv zs, iv fr, iv to, .val (.long dd), .second, .val (.long la), .second, iv (1 : Int32), .unset] [])) rfl (hb hby at_148) (by decide) (by decide)
              obtain ⟨b255, g255⟩ : ∃ z, z = h0.size := ⟨_, rfl⟩
              rw [← g255] at A255 D255 st255
              have g_b255 : n0 ≤ b255 := Nat.le_trans Z0 (Nat.le_of_eq g255.symm)
              have Z255 : n0 ≤ h255.size := Nat.le_trans Z0 E255.1
              have pre256 : ∀ t, SS p e below m T255 152 #[iv p1, iv p2, iv p3, iv p4, iv zs, iv fr, iv to, .val (.long dd), .second, .val (.long la), .second, iv (1 : Int32), .unset] [(.ref b255), (.ref b255)] t → B t := fun t kk => pre254 t (by
                refine st255 _ ?_
                show SS p e below m T255 151 #[iv p1, iv p2, iv p3, iv p4, iv zs, iv fr, iv to, .val (.long dd), .second, .val (.long la), .second, iv (1 : Int32), .unset] [(.ref b255)] _
                refine XS.dup X255.here hx rfl (hb hby at_151) rfl rfl ?_
                show SS p e below m T255 152 #[iv p1, iv p2, iv p3, iv p4, iv zs, iv fr, iv to, .val (.long dd), .second, .val (.long la), .second, iv (1 : Int32), .unset] [(.ref b255), (.ref b255)] _
                exact kk)
              obtain ⟨_, _, ⟨T257, L257, k257, n257⟩, -, X257, ⟨Lc257, hQ257, l257, y257, z257⟩, st257⟩ := X255.specialBack hx (y := (⟨"com/example/hermit_crab/hermitcrab/sim/Topology$Ring", "<init>", "()V"⟩ : MethodName)) rfl hown (mvT hZ (hw _ (List.mem_of_getElem? (i := 7) rfl))) (mvT hZ (hw _ (List.mem_of_getElem? (i := 8) rfl))) (mvT hZ (hw _ (List.mem_of_getElem? (i := 9) rfl))) (by decide) (backOf (W := 1) (rm1 l Z a0 hw [] b255 h255 n0 Z255 ) hZ (hw _ (List.mem_of_getElem? (i := 9) rfl)) (hw _ (List.mem_of_getElem? (i := 6) rfl)) (by decide) (by decide)) (g := (mkF m 152 #[iv p1, iv p2, iv p3, iv p4, iv zs, iv fr, iv to, .val (.long dd), .second, .val (.long la), .second, iv (1 : Int32), .unset] [(.ref b255), (.ref b255)])) rfl (by rw [hml]; rfl) (Steps.refl _) (a := b255) (argsL := []) (rest := [(.ref b255)]) (lenOf pd_0 rfl) rfl (by show 2 * 0 + _ ≤ _; exact Nat.le_of_eq rfl) (hb hby at_152) (fun _ _ => ⟨rfl, e255, (by decide : 1 + 0 ≤ _), (by decide : 0 + 0 ≤ _)⟩)
              dsimp only [Pt.U, Pt.locs, Pt.cells, Pt.slots] at X257 l257 y257 z257 st257 hQ257
              subst l257 y257 z257
              obtain ⟨rfl, N257q, e257⟩ := hQ257
              have N257 := Fr.app N0 N257q
              have pre258 : ∀ t, SS p e below m T257 165 #[iv p1, iv p2, iv p3, iv p4, iv zs, iv fr, iv to, .val (.long dd), .second, .val (.long la), .second, iv (1 : Int32), rv b255] [(.int zs), (.int to), (.int fr), (.ref b255)] t → B t := fun t kk => pre256 t (by
                refine st257.trans ?_
                show SS p e below m T257 155 #[iv p1, iv p2, iv p3, iv p4, iv zs, iv fr, iv to, .val (.long dd), .second, .val (.long la), .second, iv (1 : Int32), .unset] [(.ref b255)] _
                refine XS.astore X257.here hx rfl (hb hby at_155) rfl rfl (l' := #[iv p1, iv p2, iv p3, iv p4, iv zs, iv fr, iv to, .val (.long dd), .second, .val (.long la), .second, iv (1 : Int32), rv b255]) rfl ?_
                show SS p e below m T257 157 #[iv p1, iv p2, iv p3, iv p4, iv zs, iv fr, iv to, .val (.long dd), .second, .val (.long la), .second, iv (1 : Int32), rv b255] [] _
                refine XS.aload X257.here hx rfl (hb hby at_157) rfl rfl ?_
                show SS p e below m T257 159 #[iv p1, iv p2, iv p3, iv p4, iv zs, iv fr, iv to, .val (.long dd), .second, .val (.long la), .second, iv (1 : Int32), rv b255] [(.ref b255)] _
                refine XS.iload X257.here hx rfl (hb hby at_159) rfl ?_
                show SS p e below m T257 161 #[iv p1, iv p2, iv p3, iv p4, iv zs, iv fr, iv to, .val (.long dd), .second, .val (.long la), .second, iv (1 : Int32), rv b255] [(.int fr), (.ref b255)] _
                refine XS.iload X257.here hx rfl (hb hby at_161) rfl ?_
                show SS p e below m T257 163 #[iv p1, iv p2, iv p3, iv p4, iv zs, iv fr, iv to, .val (.long dd), .second, .val (.long la), .second, iv (1 : Int32), rv b255] [(.int to), (.int fr), (.ref b255)] _
                refine XS.iload X257.here hx rfl (hb hby at_163) rfl ?_
                show SS p e below m T257 165 #[iv p1, iv p2, iv p3, iv p4, iv zs, iv fr, iv to, .val (.long dd), .second, .val (.long la), .second, iv (1 : Int32), rv b255] [(.int zs), (.int to), (.int fr), (.ref b255)] _
                exact kk)
              obtain ⟨cq259, kq259, q259a, q259b, q259c⟩ := isOf hZ e257 A255
              obtain ⟨_, _, ⟨T259, L259, k259, n259⟩, -, X259, ⟨Lc259, hQ259, l259, y259, z259⟩, st259⟩ := X257.virtualBack hx (y := (⟨"com/example/hermit_crab/hermitcrab/sim/Topology$Ring", "links", "(III)Z"⟩ : MethodName)) (z := (⟨"com/example/hermit_crab/hermitcrab/sim/Topology$Ring", "links", "(III)Z"⟩ : MethodName)) hown (mvT hZ (hw _ (List.mem_of_getElem? (i := 18) rfl))) (mvT hZ (hw _ (List.mem_of_getElem? (i := 19) rfl))) (notFace_of_selects (args := #[]) (mvT hZ (hw _ (List.mem_of_getElem? (i := 21) rfl)))) (mvT hZ (hw _ (List.mem_of_getElem? (i := 21) rfl))) (mvT hZ (hw _ (List.mem_of_getElem? (i := 20) rfl))) (by decide) (backOf (W := 0) (rm4 l Z a0 hw [] b255 fr to zs h255 n0 Z255 hnz0) hZ (hw _ (List.mem_of_getElem? (i := 22) rfl)) (hw _ (List.mem_of_getElem? (i := 6) rfl)) (by decide) (by decide)) q259a q259c (g := (mkF m 165 #[iv p1, iv p2, iv p3, iv p4, iv zs, iv fr, iv to, .val (.long dd), .second, .val (.long la), .second, iv (1 : Int32), rv b255] [(.int zs), (.int to), (.int fr), (.ref b255)])) rfl (by rw [hml]; rfl) (Steps.refl _) (argsL := [(.int fr), (.int to), (.int zs)]) (rest := []) (lenOf pd_1 rfl) rfl (by show 2 * 0 + _ ≤ _; exact Nat.le_of_eq rfl) (hb hby at_165) (fun _ _ => ⟨rfl, e257, (by decide : 1 + 0 ≤ _), (by decide : 0 + 0 ≤ _)⟩)
              dsimp only [Pt.U, Pt.locs, Pt.cells, Pt.slots] at X259 l259 y259 z259 st259 hQ259
              subst l259 y259 z259
              obtain ⟨rfl, N259q, e259⟩ := hQ259
              have N259 := Fr.app N257 N259q
              have pre263 : ∀ t, SS p e below m T259 170 #[iv p1, iv p2, iv p3, iv p4, iv zs, iv fr, iv to, .val (.long dd), .second, .val (.long la), .second, iv (1 : Int32), rv b255] [(.int (1 : Int32)), (.int (f4 fr to zs))] t → B t := fun t kk => pre258 t (by
                refine st259.trans ?_
                show SS p e below m T259 168 #[iv p1, iv p2, iv p3, iv p4, iv zs, iv fr, iv to, .val (.long dd), .second, .val (.long la), .second, iv (1 : Int32), rv b255] [(.int (f4 fr to zs))] _
                refine XS.iload X259.here hx rfl (hb hby at_168) rfl ?_
                show SS p e below m T259 170 #[iv p1, iv p2, iv p3, iv p4, iv zs, iv fr, iv to, .val (.long dd), .second, .val (.long la), .second, iv (1 : Int32), rv b255] [(.int (1 : Int32)), (.int (f4 fr to zs))] _
                exact kk)
              have hq264 : (f4 fr to zs) = (1 : Int32) := by
                rw [own_links _ _ _ hz hfr hto]
                have u260 := mt (lw_eq dd (1 : Int64)).mpr hc228
                rw [← Int64.toInt_inj] at u260
                have u261 := mt (lw_eq dd (-1 : Int64)).mpr hc240
                rw [← Int64.toInt_inj] at u261
                have u262 := (lw_eq dd la).mp hc253
                rw [← Int64.toInt_inj] at u262
                have J1 : (1 : Int64).toInt = 1 := by decide
                have Jm : (-1 : Int64).toInt = -1 := by decide
                rw [if_pos (by omega)]
              have pre265 : ∀ t, SS p e below m T259 178 #[iv p1, iv p2, iv p3, iv p4, iv zs, iv fr, iv to, .val (.long dd), .second, .val (.long la), .second, iv (1 : Int32), rv b255] [(.int (1 : Int32))] t → B t := fun t kk => pre263 t (by
                refine XS.icmpNo X259.here hx rfl (hb hby at_170) rfl (teq hq264).2 ?_
                show SS p e below m T259 173 #[iv p1, iv p2, iv p3, iv p4, iv zs, iv fr, iv to, .val (.long dd), .second, .val (.long la), .second, iv (1 : Int32), rv b255] [] _
                refine XS.iconst X259.here hx rfl (hb hby at_173) ?_
                show SS p e below m T259 174 #[iv p1, iv p2, iv p3, iv p4, iv zs, iv fr, iv to, .val (.long dd), .second, .val (.long la), .second, iv (1 : Int32), rv b255] [(.int (1 : Int32))] _
                refine XS.goto X259.here hx rfl (pc0 := 174) (pc' := 178) rfl (hb hby at_174) (by decide) (by decide) ?_
                show SS p e below m T259 178 #[iv p1, iv p2, iv p3, iv p4, iv zs, iv fr, iv to, .val (.long dd), .second, .val (.long la), .second, iv (1 : Int32), rv b255] [(.int (1 : Int32))] _
                exact kk)
              obtain ⟨fs, hr, hrun, hended, hW, hsame⟩ := X259.leave (v := some (.int (1 : Int32))) (fun h => by rw [Bd.returns] at h; cases h)
              refine ⟨_, _, hB _ (pre265 _ ?_), hrun, hended, _, _, rfl, ?_, ⟨_, rfl⟩, hW, hsame.mono (by decide) (by decide)⟩
              · exact retN X259 hx (t := .boolean) Bd.returns (by simp) (hb hby at_178) hr
              · exact ⟨rfl, N259⟩
            · have pre266 : ∀ t, SS p e below m s₁ 138 #[iv p1, iv p2, iv p3, iv p4, iv zs, iv fr, iv to, .val (.long dd), .second, .val (.long la), .second, .unset, .unset] [(.int (lcmpW dd (-la)))] t → B t := fun t kk => pre252 t (by
                refine XS.ifNo X0.here hx rfl (hb hby at_129) rfl ((if0 _ _).trans (feq hc253).1) ?_
                show SS p e below m s₁ 132 #[iv p1, iv p2, iv p3, iv p4, iv zs, iv fr, iv to, .val (.long dd), .second, .val (.long la), .second, .unset, .unset] [] _
                refine XS.lload X0.here hx rfl (hb hby at_132) rfl ?_
                show SS p e below m s₁ 134 #[iv p1, iv p2, iv p3, iv p4, iv zs, iv fr, iv to, .val (.long dd), .second, .val (.long la), .second, .unset, .unset] [(.long dd)] _
                refine XS.lload X0.here hx rfl (hb hby at_134) rfl ?_
                show SS p e below m s₁ 136 #[iv p1, iv p2, iv p3, iv p4, iv zs, iv fr, iv to, .val (.long dd), .second, .val (.long la), .second, .unset, .unset] [(.long la), (.long dd)] _
                refine XS.lneg X0.here hx rfl (hb hby at_136) rfl ?_
                show SS p e below m s₁ 137 #[iv p1, iv p2, iv p3, iv p4, iv zs, iv fr, iv to, .val (.long dd), .second, .val (.long la), .second, .unset, .unset] [(.long (-la)), (.long dd)] _
                refine XS.lcmp X0.here hx rfl (hb hby at_137) rfl ?_
                show SS p e below m s₁ 138 #[iv p1, iv p2, iv p3, iv p4, iv zs, iv fr, iv to, .val (.long dd), .second, .val (.long la), .second, .unset, .unset] [(.int (lcmpW dd (-la)))] _
                exact kk)
              by_cases hc267 : (lcmpW dd (-la)) = (0 : Int32)
              · have pre268 : ∀ t, SS p e below m s₁ 148 #[iv p1, iv p2, iv p3, iv p4, iv zs, iv fr, iv to, .val (.long dd), .second, .val (.long la), .second, iv (1 : Int32), .unset] [] t → B t := fun t kk => pre266 t (by
                  refine XS.ifNo X0.here hx rfl (hb hby at_138) rfl ((if0 _ _).trans (teq hc267).2) ?_
                  show SS p e below m s₁ 141 #[iv p1, iv p2, iv p3, iv p4, iv zs, iv fr, iv to, .val (.long dd), .second, .val (.long la), .second, .unset, .unset] [] _
                  refine XS.iconst X0.here hx rfl (hb hby at_141) ?_
                  show SS p e below m s₁ 142 #[iv p1, iv p2, iv p3, iv p4, iv zs, iv fr, iv to, .val (.long dd), .second, .val (.long la), .second, .unset, .unset] [(.int (1 : Int32))] _
                  refine XS.goto X0.here hx rfl (pc0 := 142) (pc' := 146) rfl (hb hby at_142) (by decide) (by decide) ?_
                  show SS p e below m s₁ 146 #[iv p1, iv p2, iv p3, iv p4, iv zs, iv fr, iv to, .val (.long dd), .second, .val (.long la), .second, .unset, .unset] [(.int (1 : Int32))] _
                  refine XS.istore X0.here hx rfl (hb hby at_146) rfl (l' := #[iv p1, iv p2, iv p3, iv p4, iv zs, iv fr, iv to, .val (.long dd), .second, .val (.long la), .second, iv (1 : Int32), .unset]) rfl ?_
                  show SS p e below m s₁ 148 #[iv p1, iv p2, iv p3, iv p4, iv zs, iv fr, iv to, .val (.long dd), .second, .val (.long la), .second, iv (1 : Int32), .unset] [] _
                  exact kk)
                obtain ⟨T269, h269, X269, e269, E269, A269, D269, -, st269⟩ := newO X0 hx hZ hown (hw _ (List.mem_of_getElem? (i := 4) rfl)) (hw _ (List.mem_of_getElem? (i := 5) rfl)) (hw _ (List.mem_of_getElem? (i := 6) rfl)) e0 (g := (mkF m 148 #[iv p1, iv p2, iv p3, iv p4, iv zs, iv fr, iv to, .val (.long dd), .second, .val (.long la), .second, iv (1 : Int32), .unset] [])) rfl (hb hby at_148) (by decide) (by decide)
                obtain ⟨b269, g269⟩ : ∃ z, z = h0.size := ⟨_, rfl⟩
                rw [← g269] at A269 D269 st269
                have g_b269 : n0 ≤ b269 := Nat.le_trans Z0 (Nat.le_of_eq g269.symm)
                have Z269 : n0 ≤ h269.size := Nat.le_trans Z0 E269.1
                have pre270 : ∀ t, SS p e below m T269 152 #[iv p1, iv p2, iv p3, iv p4, iv zs, iv fr, iv to, .val (.long dd), .second, .val (.long la), .second, iv (1 : Int32), .unset] [(.ref b269), (.ref b269)] t → B t := fun t kk => pre268 t (by
                  refine st269 _ ?_
                  show SS p e below m T269 151 #[iv p1, iv p2, iv p3, iv p4, iv zs, iv fr, iv to, .val (.long dd), .second, .val (.long la), .second, iv (1 : Int32), .unset] [(.ref b269)] _
                  refine XS.dup X269.here hx rfl (hb hby at_151) rfl rfl ?_
                  show SS p e below m T269 152 #[iv p1, iv p2, iv p3, iv p4, iv zs, iv fr, iv to, .val (.long dd), .second, .val (.long la), .second, iv (1 : Int32), .unset] [(.ref b269), (.ref b269)] _
                  exact kk)
                obtain ⟨_, _, ⟨T271, L271, k271, n271⟩, -, X271, ⟨Lc271, hQ271, l271, y271, z271⟩, st271⟩ := X269.specialBack hx (y := (⟨"com/example/hermit_crab/hermitcrab/sim/Topology$Ring", "<init>", "()V"⟩ : MethodName)) rfl hown (mvT hZ (hw _ (List.mem_of_getElem? (i := 7) rfl))) (mvT hZ (hw _ (List.mem_of_getElem? (i := 8) rfl))) (mvT hZ (hw _ (List.mem_of_getElem? (i := 9) rfl))) (by decide) (backOf (W := 1) (rm1 l Z a0 hw [] b269 h269 n0 Z269 ) hZ (hw _ (List.mem_of_getElem? (i := 9) rfl)) (hw _ (List.mem_of_getElem? (i := 6) rfl)) (by decide) (by decide)) (g := (mkF m 152 #[iv p1, iv p2, iv p3, iv p4, iv zs, iv fr, iv to, .val (.long dd), .second, .val (.long la), .second, iv (1 : Int32), .unset] [(.ref b269), (.ref b269)])) rfl (by rw [hml]; rfl) (Steps.refl _) (a := b269) (argsL := []) (rest := [(.ref b269)]) (lenOf pd_0 rfl) rfl (by show 2 * 0 + _ ≤ _; exact Nat.le_of_eq rfl) (hb hby at_152) (fun _ _ => ⟨rfl, e269, (by decide : 1 + 0 ≤ _), (by decide : 0 + 0 ≤ _)⟩)
                dsimp only [Pt.U, Pt.locs, Pt.cells, Pt.slots] at X271 l271 y271 z271 st271 hQ271
                subst l271 y271 z271
                obtain ⟨rfl, N271q, e271⟩ := hQ271
                have N271 := Fr.app N0 N271q
                have pre272 : ∀ t, SS p e below m T271 165 #[iv p1, iv p2, iv p3, iv p4, iv zs, iv fr, iv to, .val (.long dd), .second, .val (.long la), .second, iv (1 : Int32), rv b269] [(.int zs), (.int to), (.int fr), (.ref b269)] t → B t := fun t kk => pre270 t (by
                  refine st271.trans ?_
                  show SS p e below m T271 155 #[iv p1, iv p2, iv p3, iv p4, iv zs, iv fr, iv to, .val (.long dd), .second, .val (.long la), .second, iv (1 : Int32), .unset] [(.ref b269)] _
                  refine XS.astore X271.here hx rfl (hb hby at_155) rfl rfl (l' := #[iv p1, iv p2, iv p3, iv p4, iv zs, iv fr, iv to, .val (.long dd), .second, .val (.long la), .second, iv (1 : Int32), rv b269]) rfl ?_
                  show SS p e below m T271 157 #[iv p1, iv p2, iv p3, iv p4, iv zs, iv fr, iv to, .val (.long dd), .second, .val (.long la), .second, iv (1 : Int32), rv b269] [] _
                  refine XS.aload X271.here hx rfl (hb hby at_157) rfl rfl ?_
                  show SS p e below m T271 159 #[iv p1, iv p2, iv p3, iv p4, iv zs, iv fr, iv to, .val (.long dd), .second, .val (.long la), .second, iv (1 : Int32), rv b269] [(.ref b269)] _
                  refine XS.iload X271.here hx rfl (hb hby at_159) rfl ?_
                  show SS p e below m T271 161 #[iv p1, iv p2, iv p3, iv p4, iv zs, iv fr, iv to, .val (.long dd), .second, .val (.long la), .second, iv (1 : Int32), rv b269] [(.int fr), (.ref b269)] _
                  refine XS.iload X271.here hx rfl (hb hby at_161) rfl ?_
                  show SS p e below m T271 163 #[iv p1, iv p2, iv p3, iv p4, iv zs, iv fr, iv to, .val (.long dd), .second, .val (.long la), .second, iv (1 : Int32), rv b269] [(.int to), (.int fr), (.ref b269)] _
                  refine XS.iload X271.here hx rfl (hb hby at_163) rfl ?_
                  show SS p e below m T271 165 #[iv p1, iv p2, iv p3, iv p4, iv zs, iv fr, iv to, .val (.long dd), .second, .val (.long la), .second, iv (1 : Int32), rv b269] [(.int zs), (.int to), (.int fr), (.ref b269)] _
                  exact kk)
                obtain ⟨cq273, kq273, q273a, q273b, q273c⟩ := isOf hZ e271 A269
                obtain ⟨_, _, ⟨T273, L273, k273, n273⟩, -, X273, ⟨Lc273, hQ273, l273, y273, z273⟩, st273⟩ := X271.virtualBack hx (y := (⟨"com/example/hermit_crab/hermitcrab/sim/Topology$Ring", "links", "(III)Z"⟩ : MethodName)) (z := (⟨"com/example/hermit_crab/hermitcrab/sim/Topology$Ring", "links", "(III)Z"⟩ : MethodName)) hown (mvT hZ (hw _ (List.mem_of_getElem? (i := 18) rfl))) (mvT hZ (hw _ (List.mem_of_getElem? (i := 19) rfl))) (notFace_of_selects (args := #[]) (mvT hZ (hw _ (List.mem_of_getElem? (i := 21) rfl)))) (mvT hZ (hw _ (List.mem_of_getElem? (i := 21) rfl))) (mvT hZ (hw _ (List.mem_of_getElem? (i := 20) rfl))) (by decide) (backOf (W := 0) (rm4 l Z a0 hw [] b269 fr to zs h269 n0 Z269 hnz0) hZ (hw _ (List.mem_of_getElem? (i := 22) rfl)) (hw _ (List.mem_of_getElem? (i := 6) rfl)) (by decide) (by decide)) q273a q273c (g := (mkF m 165 #[iv p1, iv p2, iv p3, iv p4, iv zs, iv fr, iv to, .val (.long dd), .second, .val (.long la), .second, iv (1 : Int32), rv b269] [(.int zs), (.int to), (.int fr), (.ref b269)])) rfl (by rw [hml]; rfl) (Steps.refl _) (argsL := [(.int fr), (.int to), (.int zs)]) (rest := []) (lenOf pd_1 rfl) rfl (by show 2 * 0 + _ ≤ _; exact Nat.le_of_eq rfl) (hb hby at_165) (fun _ _ => ⟨rfl, e271, (by decide : 1 + 0 ≤ _), (by decide : 0 + 0 ≤ _)⟩)
                dsimp only [Pt.U, Pt.locs, Pt.cells, Pt.slots] at X273 l273 y273 z273 st273 hQ273
                subst l273 y273 z273
                obtain ⟨rfl, N273q, e273⟩ := hQ273
                have N273 := Fr.app N271 N273q
                have pre278 : ∀ t, SS p e below m T273 170 #[iv p1, iv p2, iv p3, iv p4, iv zs, iv fr, iv to, .val (.long dd), .second, .val (.long la), .second, iv (1 : Int32), rv b269] [(.int (1 : Int32)), (.int (f4 fr to zs))] t → B t := fun t kk => pre272 t (by
                  refine st273.trans ?_
                  show SS p e below m T273 168 #[iv p1, iv p2, iv p3, iv p4, iv zs, iv fr, iv to, .val (.long dd), .second, .val (.long la), .second, iv (1 : Int32), rv b269] [(.int (f4 fr to zs))] _
                  refine XS.iload X273.here hx rfl (hb hby at_168) rfl ?_
                  show SS p e below m T273 170 #[iv p1, iv p2, iv p3, iv p4, iv zs, iv fr, iv to, .val (.long dd), .second, .val (.long la), .second, iv (1 : Int32), rv b269] [(.int (1 : Int32)), (.int (f4 fr to zs))] _
                  exact kk)
                have hq279 : (f4 fr to zs) = (1 : Int32) := by
                  rw [own_links _ _ _ hz hfr hto]
                  have u274 := mt (lw_eq dd (1 : Int64)).mpr hc228
                  rw [← Int64.toInt_inj] at u274
                  have u275 := mt (lw_eq dd (-1 : Int64)).mpr hc240
                  rw [← Int64.toInt_inj] at u275
                  have u276 := mt (lw_eq dd la).mpr hc253
                  rw [← Int64.toInt_inj] at u276
                  have u277 := (lw_eq dd (-la)).mp hc267
                  rw [← Int64.toInt_inj] at u277
                  have J1 : (1 : Int64).toInt = 1 := by decide
                  have Jm : (-1 : Int64).toInt = -1 := by decide
                  rw [if_pos (by omega)]
                have pre280 : ∀ t, SS p e below m T273 178 #[iv p1, iv p2, iv p3, iv p4, iv zs, iv fr, iv to, .val (.long dd), .second, .val (.long la), .second, iv (1 : Int32), rv b269] [(.int (1 : Int32))] t → B t := fun t kk => pre278 t (by
                  refine XS.icmpNo X273.here hx rfl (hb hby at_170) rfl (teq hq279).2 ?_
                  show SS p e below m T273 173 #[iv p1, iv p2, iv p3, iv p4, iv zs, iv fr, iv to, .val (.long dd), .second, .val (.long la), .second, iv (1 : Int32), rv b269] [] _
                  refine XS.iconst X273.here hx rfl (hb hby at_173) ?_
                  show SS p e below m T273 174 #[iv p1, iv p2, iv p3, iv p4, iv zs, iv fr, iv to, .val (.long dd), .second, .val (.long la), .second, iv (1 : Int32), rv b269] [(.int (1 : Int32))] _
                  refine XS.goto X273.here hx rfl (pc0 := 174) (pc' := 178) rfl (hb hby at_174) (by decide) (by decide) ?_
                  show SS p e below m T273 178 #[iv p1, iv p2, iv p3, iv p4, iv zs, iv fr, iv to, .val (.long dd), .second, .val (.long la), .second, iv (1 : Int32), rv b269] [(.int (1 : Int32))] _
                  exact kk)
                obtain ⟨fs, hr, hrun, hended, hW, hsame⟩ := X273.leave (v := some (.int (1 : Int32))) (fun h => by rw [Bd.returns] at h; cases h)
                refine ⟨_, _, hB _ (pre280 _ ?_), hrun, hended, _, _, rfl, ?_, ⟨_, rfl⟩, hW, hsame.mono (by decide) (by decide)⟩
                · exact retN X273 hx (t := .boolean) Bd.returns (by simp) (hb hby at_178) hr
                · exact ⟨rfl, N273⟩
              · have pre281 : ∀ t, SS p e below m s₁ 148 #[iv p1, iv p2, iv p3, iv p4, iv zs, iv fr, iv to, .val (.long dd), .second, .val (.long la), .second, iv (0 : Int32), .unset] [] t → B t := fun t kk => pre266 t (by
                  refine XS.ifYes X0.here hx rfl (pc0 := 138) (pc' := 145) rfl (hb hby at_138) rfl ((if0 _ _).trans (feq hc267).2) (by decide) (by decide) ?_
                  show SS p e below m s₁ 145 #[iv p1, iv p2, iv p3, iv p4, iv zs, iv fr, iv to, .val (.long dd), .second, .val (.long la), .second, .unset, .unset] [] _
                  refine XS.iconst X0.here hx rfl (hb hby at_145) ?_
                  show SS p e below m s₁ 146 #[iv p1, iv p2, iv p3, iv p4, iv zs, iv fr, iv to, .val (.long dd), .second, .val (.long la), .second, .unset, .unset] [(.int (0 : Int32))] _
                  refine XS.istore X0.here hx rfl (hb hby at_146) rfl (l' := #[iv p1, iv p2, iv p3, iv p4, iv zs, iv fr, iv to, .val (.long dd), .second, .val (.long la), .second, iv (0 : Int32), .unset]) rfl ?_
                  show SS p e below m s₁ 148 #[iv p1, iv p2, iv p3, iv p4, iv zs, iv fr, iv to, .val (.long dd), .second, .val (.long la), .second, iv (0 : Int32), .unset] [] _
                  exact kk)
                obtain ⟨T282, h282, X282, e282, E282, A282, D282, -, st282⟩ := newO X0 hx hZ hown (hw _ (List.mem_of_getElem? (i := 4) rfl)) (hw _ (List.mem_of_getElem? (i := 5) rfl)) (hw _ (List.mem_of_getElem? (i := 6) rfl)) e0 (g := (mkF m 148 #[iv p1, iv p2, iv p3, iv p4, iv zs, iv fr, iv to, .val (.long dd), .second, .val (.long la), .second, iv (0 : Int32), .unset] [])) rfl (hb hby at_148) (by decide) (by decide)
                obtain ⟨b282, g282⟩ : ∃ z, z = h0.size := ⟨_, rfl⟩
                rw [← g282] at A282 D282 st282
                have g_b282 : n0 ≤ b282 := Nat.le_trans Z0 (Nat.le_of_eq g282.symm)
                have Z282 : n0 ≤ h282.size := Nat.le_trans Z0 E282.1
                have pre283 : ∀ t, SS p e below m T282 152 #[iv p1, iv p2, iv p3, iv p4, iv zs, iv fr, iv to, .val (.long dd), .second, .val (.long la), .second, iv (0 : Int32), .unset] [(.ref b282), (.ref b282)] t → B t := fun t kk => pre281 t (by
                  refine st282 _ ?_
                  show SS p e below m T282 151 #[iv p1, iv p2, iv p3, iv p4, iv zs, iv fr, iv to, .val (.long dd), .second, .val (.long la), .second, iv (0 : Int32), .unset] [(.ref b282)] _
                  refine XS.dup X282.here hx rfl (hb hby at_151) rfl rfl ?_
                  show SS p e below m T282 152 #[iv p1, iv p2, iv p3, iv p4, iv zs, iv fr, iv to, .val (.long dd), .second, .val (.long la), .second, iv (0 : Int32), .unset] [(.ref b282), (.ref b282)] _
                  exact kk)
                obtain ⟨_, _, ⟨T284, L284, k284, n284⟩, -, X284, ⟨Lc284, hQ284, l284, y284, z284⟩, st284⟩ := X282.specialBack hx (y := (⟨"com/example/hermit_crab/hermitcrab/sim/Topology$Ring", "<init>", "()V"⟩ : MethodName)) rfl hown (mvT hZ (hw _ (List.mem_of_getElem? (i := 7) rfl))) (mvT hZ (hw _ (List.mem_of_getElem? (i := 8) rfl))) (mvT hZ (hw _ (List.mem_of_getElem? (i := 9) rfl))) (by decide) (backOf (W := 1) (rm1 l Z a0 hw [] b282 h282 n0 Z282 ) hZ (hw _ (List.mem_of_getElem? (i := 9) rfl)) (hw _ (List.mem_of_getElem? (i := 6) rfl)) (by decide) (by decide)) (g := (mkF m 152 #[iv p1, iv p2, iv p3, iv p4, iv zs, iv fr, iv to, .val (.long dd), .second, .val (.long la), .second, iv (0 : Int32), .unset] [(.ref b282), (.ref b282)])) rfl (by rw [hml]; rfl) (Steps.refl _) (a := b282) (argsL := []) (rest := [(.ref b282)]) (lenOf pd_0 rfl) rfl (by show 2 * 0 + _ ≤ _; exact Nat.le_of_eq rfl) (hb hby at_152) (fun _ _ => ⟨rfl, e282, (by decide : 1 + 0 ≤ _), (by decide : 0 + 0 ≤ _)⟩)
                dsimp only [Pt.U, Pt.locs, Pt.cells, Pt.slots] at X284 l284 y284 z284 st284 hQ284
                subst l284 y284 z284
                obtain ⟨rfl, N284q, e284⟩ := hQ284
                have N284 := Fr.app N0 N284q
                have pre285 : ∀ t, SS p e below m T284 165 #[iv p1, iv p2, iv p3, iv p4, iv zs, iv fr, iv to, .val (.long dd), .second, .val (.long la), .second, iv (0 : Int32), rv b282] [(.int zs), (.int to), (.int fr), (.ref b282)] t → B t := fun t kk => pre283 t (by
                  refine st284.trans ?_
                  show SS p e below m T284 155 #[iv p1, iv p2, iv p3, iv p4, iv zs, iv fr, iv to, .val (.long dd), .second, .val (.long la), .second, iv (0 : Int32), .unset] [(.ref b282)] _
                  refine XS.astore X284.here hx rfl (hb hby at_155) rfl rfl (l' := #[iv p1, iv p2, iv p3, iv p4, iv zs, iv fr, iv to, .val (.long dd), .second, .val (.long la), .second, iv (0 : Int32), rv b282]) rfl ?_
                  show SS p e below m T284 157 #[iv p1, iv p2, iv p3, iv p4, iv zs, iv fr, iv to, .val (.long dd), .second, .val (.long la), .second, iv (0 : Int32), rv b282] [] _
                  refine XS.aload X284.here hx rfl (hb hby at_157) rfl rfl ?_
                  show SS p e below m T284 159 #[iv p1, iv p2, iv p3, iv p4, iv zs, iv fr, iv to, .val (.long dd), .second, .val (.long la), .second, iv (0 : Int32), rv b282] [(.ref b282)] _
                  refine XS.iload X284.here hx rfl (hb hby at_159) rfl ?_
                  show SS p e below m T284 161 #[iv p1, iv p2, iv p3, iv p4, iv zs, iv fr, iv to, .val (.long dd), .second, .val (.long la), .second, iv (0 : Int32), rv b282] [(.int fr), (.ref b282)] _
                  refine XS.iload X284.here hx rfl (hb hby at_161) rfl ?_
                  show SS p e below m T284 163 #[iv p1, iv p2, iv p3, iv p4, iv zs, iv fr, iv to, .val (.long dd), .second, .val (.long la), .second, iv (0 : Int32), rv b282] [(.int to), (.int fr), (.ref b282)] _
                  refine XS.iload X284.here hx rfl (hb hby at_163) rfl ?_
                  show SS p e below m T284 165 #[iv p1, iv p2, iv p3, iv p4, iv zs, iv fr, iv to, .val (.long dd), .second, .val (.long la), .second, iv (0 : Int32), rv b282] [(.int zs), (.int to), (.int fr), (.ref b282)] _
                  exact kk)
                obtain ⟨cq286, kq286, q286a, q286b, q286c⟩ := isOf hZ e284 A282
                obtain ⟨_, _, ⟨T286, L286, k286, n286⟩, -, X286, ⟨Lc286, hQ286, l286, y286, z286⟩, st286⟩ := X284.virtualBack hx (y := (⟨"com/example/hermit_crab/hermitcrab/sim/Topology$Ring", "links", "(III)Z"⟩ : MethodName)) (z := (⟨"com/example/hermit_crab/hermitcrab/sim/Topology$Ring", "links", "(III)Z"⟩ : MethodName)) hown (mvT hZ (hw _ (List.mem_of_getElem? (i := 18) rfl))) (mvT hZ (hw _ (List.mem_of_getElem? (i := 19) rfl))) (notFace_of_selects (args := #[]) (mvT hZ (hw _ (List.mem_of_getElem? (i := 21) rfl)))) (mvT hZ (hw _ (List.mem_of_getElem? (i := 21) rfl))) (mvT hZ (hw _ (List.mem_of_getElem? (i := 20) rfl))) (by decide) (backOf (W := 0) (rm4 l Z a0 hw [] b282 fr to zs h282 n0 Z282 hnz0) hZ (hw _ (List.mem_of_getElem? (i := 22) rfl)) (hw _ (List.mem_of_getElem? (i := 6) rfl)) (by decide) (by decide)) q286a q286c (g := (mkF m 165 #[iv p1, iv p2, iv p3, iv p4, iv zs, iv fr, iv to, .val (.long dd), .second, .val (.long la), .second, iv (0 : Int32), rv b282] [(.int zs), (.int to), (.int fr), (.ref b282)])) rfl (by rw [hml]; rfl) (Steps.refl _) (argsL := [(.int fr), (.int to), (.int zs)]) (rest := []) (lenOf pd_1 rfl) rfl (by show 2 * 0 + _ ≤ _; exact Nat.le_of_eq rfl) (hb hby at_165) (fun _ _ => ⟨rfl, e284, (by decide : 1 + 0 ≤ _), (by decide : 0 + 0 ≤ _)⟩)
                dsimp only [Pt.U, Pt.locs, Pt.cells, Pt.slots] at X286 l286 y286 z286 st286 hQ286
                subst l286 y286 z286
                obtain ⟨rfl, N286q, e286⟩ := hQ286
                have N286 := Fr.app N284 N286q
                have pre291 : ∀ t, SS p e below m T286 170 #[iv p1, iv p2, iv p3, iv p4, iv zs, iv fr, iv to, .val (.long dd), .second, .val (.long la), .second, iv (0 : Int32), rv b282] [(.int (0 : Int32)), (.int (f4 fr to zs))] t → B t := fun t kk => pre285 t (by
                  refine st286.trans ?_
                  show SS p e below m T286 168 #[iv p1, iv p2, iv p3, iv p4, iv zs, iv fr, iv to, .val (.long dd), .second, .val (.long la), .second, iv (0 : Int32), rv b282] [(.int (f4 fr to zs))] _
                  refine XS.iload X286.here hx rfl (hb hby at_168) rfl ?_
                  show SS p e below m T286 170 #[iv p1, iv p2, iv p3, iv p4, iv zs, iv fr, iv to, .val (.long dd), .second, .val (.long la), .second, iv (0 : Int32), rv b282] [(.int (0 : Int32)), (.int (f4 fr to zs))] _
                  exact kk)
                have hq292 : (f4 fr to zs) = (0 : Int32) := by
                  rw [own_links _ _ _ hz hfr hto]
                  have u287 := mt (lw_eq dd (1 : Int64)).mpr hc228
                  rw [← Int64.toInt_inj] at u287
                  have u288 := mt (lw_eq dd (-1 : Int64)).mpr hc240
                  rw [← Int64.toInt_inj] at u288
                  have u289 := mt (lw_eq dd la).mpr hc253
                  rw [← Int64.toInt_inj] at u289
                  have u290 := mt (lw_eq dd (-la)).mpr hc267
                  rw [← Int64.toInt_inj] at u290
                  have J1 : (1 : Int64).toInt = 1 := by decide
                  have Jm : (-1 : Int64).toInt = -1 := by decide
                  rw [if_neg (by omega)]
                have pre293 : ∀ t, SS p e below m T286 178 #[iv p1, iv p2, iv p3, iv p4, iv zs, iv fr, iv to, .val (.long dd), .second, .val (.long la), .second, iv (0 : Int32), rv b282] [(.int (1 : Int32))] t → B t := fun t kk => pre291 t (by
                  refine XS.icmpNo X286.here hx rfl (hb hby at_170) rfl (teq hq292).2 ?_
                  show SS p e below m T286 173 #[iv p1, iv p2, iv p3, iv p4, iv zs, iv fr, iv to, .val (.long dd), .second, .val (.long la), .second, iv (0 : Int32), rv b282] [] _
                  refine XS.iconst X286.here hx rfl (hb hby at_173) ?_
                  show SS p e below m T286 174 #[iv p1, iv p2, iv p3, iv p4, iv zs, iv fr, iv to, .val (.long dd), .second, .val (.long la), .second, iv (0 : Int32), rv b282] [(.int (1 : Int32))] _
                  refine XS.goto X286.here hx rfl (pc0 := 174) (pc' := 178) rfl (hb hby at_174) (by decide) (by decide) ?_
                  show SS p e below m T286 178 #[iv p1, iv p2, iv p3, iv p4, iv zs, iv fr, iv to, .val (.long dd), .second, .val (.long la), .second, iv (0 : Int32), rv b282] [(.int (1 : Int32))] _
                  exact kk)
                obtain ⟨fs, hr, hrun, hended, hW, hsame⟩ := X286.leave (v := some (.int (1 : Int32))) (fun h => by rw [Bd.returns] at h; cases h)
                refine ⟨_, _, hB _ (pre293 _ ?_), hrun, hended, _, _, rfl, ?_, ⟨_, rfl⟩, hW, hsame.mono (by decide) (by decide)⟩
                · exact retN X286 hx (t := .boolean) Bd.returns (by simp) (hb hby at_178) hr
                · exact ⟨rfl, N286⟩
      · have pre294 : ∀ t, SS p e below m s₁ 73 #[iv p1, iv p2, iv p3, iv p4, iv zs, iv fr, .unset, .val (.long c1), .second, .unset, .unset, .unset, .unset] [(.long (c1 - (zs.toInt64)))] t → B t := fun t kk => pre222 t (by
          refine XS.ifNo X0.here hx rfl (hb hby at_64) rfl ((if0 _ _).trans (flt hc223).1) ?_
          show SS p e below m s₁ 67 #[iv p1, iv p2, iv p3, iv p4, iv zs, iv fr, .unset, .val (.long c1), .second, .unset, .unset, .unset, .unset] [] _
          refine XS.lload X0.here hx rfl (hb hby at_67) rfl ?_
          show SS p e below m s₁ 69 #[iv p1, iv p2, iv p3, iv p4, iv zs, iv fr, .unset, .val (.long c1), .second, .unset, .unset, .unset, .unset] [(.long c1)] _
          refine XS.iload X0.here hx rfl (hb hby at_69) rfl ?_
          show SS p e below m s₁ 71 #[iv p1, iv p2, iv p3, iv p4, iv zs, iv fr, .unset, .val (.long c1), .second, .unset, .unset, .unset, .unset] [(.int zs), (.long c1)] _
          refine XS.i2l X0.here hx rfl (hb hby at_71) rfl ?_
          show SS p e below m s₁ 72 #[iv p1, iv p2, iv p3, iv p4, iv zs, iv fr, .unset, .val (.long c1), .second, .unset, .unset, .unset, .unset] [(.long (zs.toInt64)), (.long c1)] _
          refine XS.lsub X0.here hx rfl (hb hby at_72) rfl ?_
          show SS p e below m s₁ 73 #[iv p1, iv p2, iv p3, iv p4, iv zs, iv fr, .unset, .val (.long c1), .second, .unset, .unset, .unset, .unset] [(.long (c1 - (zs.toInt64)))] _
          exact kk)
        obtain ⟨c3, g_c3⟩ : ∃ z, z = (c1 - (zs.toInt64)) := ⟨_, rfl⟩
        rw [← g_c3] at pre294
        have kc3 : c3.toInt = c1.toInt - zs.toInt ∧ zs.toInt ≤ c1.toInt := by
          have q := mt (lw_lt c1 (zs.toInt64)).mpr hc223
          rw [Int64.lt_iff_toInt_lt, c_i2l] at q
          have a1 := c_lsub c1 (zs.toInt64)
          have rr := rng64 c3
          have rz := rng32 zs
          rw [c_i2l] at a1
          rw [← g_c3] at a1
          omega
        have pre295 : ∀ t, SS p e below m s₁ 78 #[iv p1, iv p2, iv p3, iv p4, iv zs, iv fr, .unset, .val (.long c3), .second, .unset, .unset, .unset, .unset] [(.int (c3.toInt32))] t → B t := fun t kk => pre294 t (by
          refine XS.lstore X0.here hx rfl (hb hby at_73) rfl (l' := #[iv p1, iv p2, iv p3, iv p4, iv zs, iv fr, .unset, .val (.long c3), .second, .unset, .unset, .unset, .unset]) rfl ?_
          show SS p e below m s₁ 75 #[iv p1, iv p2, iv p3, iv p4, iv zs, iv fr, .unset, .val (.long c3), .second, .unset, .unset, .unset, .unset] [] _
          refine XS.lload X0.here hx rfl (hb hby at_75) rfl ?_
          show SS p e below m s₁ 77 #[iv p1, iv p2, iv p3, iv p4, iv zs, iv fr, .unset, .val (.long c3), .second, .unset, .unset, .unset, .unset] [(.long c3)] _
          refine XS.l2i X0.here hx rfl (hb hby at_77) rfl ?_
          show SS p e below m s₁ 78 #[iv p1, iv p2, iv p3, iv p4, iv zs, iv fr, .unset, .val (.long c3), .second, .unset, .unset, .unset, .unset] [(.int (c3.toInt32))] _
          exact kk)
        obtain ⟨to, g_to⟩ : ∃ z, z = (c3.toInt32) := ⟨_, rfl⟩
        rw [← g_to] at pre295
        have hto : 0 ≤ to.toInt ∧ to.toInt < zs.toInt := by
          have q1 := mt (lw_lt c1 (0 : Int64)).mpr hc77
          rw [Int64.lt_iff_toInt_lt] at q1
          have q2 := mt (lw_lt c1 (zs.toInt64)).mpr hc223
          rw [Int64.lt_iff_toInt_lt, c_i2l] at q2
          have L0 : (0 : Int64).toInt = 0 := by decide
          have a1 := c_l2i c3
          rw [← g_to] at a1
          have r1 := rng32 to
          have r2 := rng32 zs
          omega
        have pre296 : ∀ t, SS p e below m s₁ 99 #[iv p1, iv p2, iv p3, iv p4, iv zs, iv fr, iv to, .val (.long c3), .second, .unset, .unset, .unset, .unset] [(.long ((to.toInt64) - (fr.toInt64)))] t → B t := fun t kk => pre295 t (by
          refine XS.istore X0.here hx rfl (hb hby at_78) rfl (l' := #[iv p1, iv p2, iv p3, iv p4, iv zs, iv fr, iv to, .val (.long c3), .second, .unset, .unset, .unset, .unset]) rfl ?_
          show SS p e below m s₁ 80 #[iv p1, iv p2, iv p3, iv p4, iv zs, iv fr, iv to, .val (.long c3), .second, .unset, .unset, .unset, .unset] [] _
          refine XS.goto X0.here hx rfl (pc0 := 80) (pc' := 92) rfl (hb hby at_80) (by decide) (by decide) ?_
          show SS p e below m s₁ 92 #[iv p1, iv p2, iv p3, iv p4, iv zs, iv fr, iv to, .val (.long c3), .second, .unset, .unset, .unset, .unset] [] _
          refine XS.iload X0.here hx rfl (hb hby at_92) rfl ?_
          show SS p e below m s₁ 94 #[iv p1, iv p2, iv p3, iv p4, iv zs, iv fr, iv to, .val (.long c3), .second, .unset, .unset, .unset, .unset] [(.int to)] _
          refine XS.i2l X0.here hx rfl (hb hby at_94) rfl ?_
          show SS p e below m s₁ 95 #[iv p1, iv p2, iv p3, iv p4, iv zs, iv fr, iv to, .val (.long c3), .second, .unset, .unset, .unset, .unset] [(.long (to.toInt64))] _
          refine XS.iload X0.here hx rfl (hb hby at_95) rfl ?_
          show SS p e below m s₁ 97 #[iv p1, iv p2, iv p3, iv p4, iv zs, iv fr, iv to, .val (.long c3), .second, .unset, .unset, .unset, .unset] [(.int fr), (.long (to.toInt64))] _
          refine XS.i2l X0.here hx rfl (hb hby at_97) rfl ?_
          show SS p e below m s₁ 98 #[iv p1, iv p2, iv p3, iv p4, iv zs, iv fr, iv to, .val (.long c3), .second, .unset, .unset, .unset, .unset] [(.long (fr.toInt64)), (.long (to.toInt64))] _
          refine XS.lsub X0.here hx rfl (hb hby at_98) rfl ?_
          show SS p e below m s₁ 99 #[iv p1, iv p2, iv p3, iv p4, iv zs, iv fr, iv to, .val (.long c3), .second, .unset, .unset, .unset, .unset] [(.long ((to.toInt64) - (fr.toInt64)))] _
          exact kk)
        obtain ⟨dd, g_dd⟩ : ∃ z, z = ((to.toInt64) - (fr.toInt64)) := ⟨_, rfl⟩
        rw [← g_dd] at pre296
        have hdd : dd.toInt = to.toInt - fr.toInt := by
          have a1 := c_lsub (to.toInt64) (fr.toInt64)
          rw [c_i2l, c_i2l, ← g_dd] at a1
          have r := rng64 dd
          have r2 := rng32 zs
          omega
        have pre297 : ∀ t, SS p e below m s₁ 106 #[iv p1, iv p2, iv p3, iv p4, iv zs, iv fr, iv to, .val (.long dd), .second, .unset, .unset, .unset, .unset] [(.long ((zs.toInt64) - (1 : Int64)))] t → B t := fun t kk => pre296 t (by
          refine XS.lstore X0.here hx rfl (hb hby at_99) rfl (l' := #[iv p1, iv p2, iv p3, iv p4, iv zs, iv fr, iv to, .val (.long dd), .second, .unset, .unset, .unset, .unset]) rfl ?_
          show SS p e below m s₁ 101 #[iv p1, iv p2, iv p3, iv p4, iv zs, iv fr, iv to, .val (.long dd), .second, .unset, .unset, .unset, .unset] [] _
          refine XS.iload X0.here hx rfl (hb hby at_101) rfl ?_
          show SS p e below m s₁ 103 #[iv p1, iv p2, iv p3, iv p4, iv zs, iv fr, iv to, .val (.long dd), .second, .unset, .unset, .unset, .unset] [(.int zs)] _
          refine XS.i2l X0.here hx rfl (hb hby at_103) rfl ?_
          show SS p e below m s₁ 104 #[iv p1, iv p2, iv p3, iv p4, iv zs, iv fr, iv to, .val (.long dd), .second, .unset, .unset, .unset, .unset] [(.long (zs.toInt64))] _
          refine XS.lconst X0.here hx rfl (hb hby at_104) ?_
          show SS p e below m s₁ 105 #[iv p1, iv p2, iv p3, iv p4, iv zs, iv fr, iv to, .val (.long dd), .second, .unset, .unset, .unset, .unset] [(.long (1 : Int64)), (.long (zs.toInt64))] _
          refine XS.lsub X0.here hx rfl (hb hby at_105) rfl ?_
          show SS p e below m s₁ 106 #[iv p1, iv p2, iv p3, iv p4, iv zs, iv fr, iv to, .val (.long dd), .second, .unset, .unset, .unset, .unset] [(.long ((zs.toInt64) - (1 : Int64)))] _
          exact kk)
        obtain ⟨la, g_la⟩ : ∃ z, z = ((zs.toInt64) - (1 : Int64)) := ⟨_, rfl⟩
        rw [← g_la] at pre297
        have hla : la.toInt = zs.toInt - 1 ∧ (-la).toInt = 1 - zs.toInt := by
          have a1 := c_lsub (zs.toInt64) (1 : Int64)
          have L1 : (1 : Int64).toInt = 1 := by decide
          rw [c_i2l, ← g_la] at a1
          have a2 := c_lneg la
          have r := rng64 la
          have r3 := rng64 (-la)
          have r2 := rng32 zs
          omega
        have pre298 : ∀ t, SS p e below m s₁ 112 #[iv p1, iv p2, iv p3, iv p4, iv zs, iv fr, iv to, .val (.long dd), .second, .val (.long la), .second, .unset, .unset] [(.int (lcmpW dd (1 : Int64)))] t → B t := fun t kk => pre297 t (by
          refine XS.lstore X0.here hx rfl (hb hby at_106) rfl (l' := #[iv p1, iv p2, iv p3, iv p4, iv zs, iv fr, iv to, .val (.long dd), .second, .val (.long la), .second, .unset, .unset]) rfl ?_
          show SS p e below m s₁ 108 #[iv p1, iv p2, iv p3, iv p4, iv zs, iv fr, iv to, .val (.long dd), .second, .val (.long la), .second, .unset, .unset] [] _
          refine XS.lload X0.here hx rfl (hb hby at_108) rfl ?_
          show SS p e below m s₁ 110 #[iv p1, iv p2, iv p3, iv p4, iv zs, iv fr, iv to, .val (.long dd), .second, .val (.long la), .second, .unset, .unset] [(.long dd)] _
          refine XS.lconst X0.here hx rfl (hb hby at_110) ?_
          show SS p e below m s₁ 111 #[iv p1, iv p2, iv p3, iv p4, iv zs, iv fr, iv to, .val (.long dd), .second, .val (.long la), .second, .unset, .unset] [(.long (1 : Int64)), (.long dd)] _
          refine XS.lcmp X0.here hx rfl (hb hby at_111) rfl ?_
          show SS p e below m s₁ 112 #[iv p1, iv p2, iv p3, iv p4, iv zs, iv fr, iv to, .val (.long dd), .second, .val (.long la), .second, .unset, .unset] [(.int (lcmpW dd (1 : Int64)))] _
          exact kk)
        by_cases hc299 : (lcmpW dd (1 : Int64)) = (0 : Int32)
        · have pre300 : ∀ t, SS p e below m s₁ 148 #[iv p1, iv p2, iv p3, iv p4, iv zs, iv fr, iv to, .val (.long dd), .second, .val (.long la), .second, iv (1 : Int32), .unset] [] t → B t := fun t kk => pre298 t (by
            refine XS.ifYes X0.here hx rfl (pc0 := 112) (pc' := 141) rfl (hb hby at_112) rfl ((if0 _ _).trans (teq hc299).1) (by decide) (by decide) ?_
            show SS p e below m s₁ 141 #[iv p1, iv p2, iv p3, iv p4, iv zs, iv fr, iv to, .val (.long dd), .second, .val (.long la), .second, .unset, .unset] [] _
            refine XS.iconst X0.here hx rfl (hb hby at_141) ?_
            show SS p e below m s₁ 142 #[iv p1, iv p2, iv p3, iv p4, iv zs, iv fr, iv to, .val (.long dd), .second, .val (.long la), .second, .unset, .unset] [(.int (1 : Int32))] _
            refine XS.goto X0.here hx rfl (pc0 := 142) (pc' := 146) rfl (hb hby at_142) (by decide) (by decide) ?_
            show SS p e below m s₁ 146 #[iv p1, iv p2, iv p3, iv p4, iv zs, iv fr, iv to, .val (.long dd), .second, .val (.long la), .second, .unset, .unset] [(.int (1 : Int32))] _
            refine XS.istore X0.here hx rfl (hb hby at_146) rfl (l' := #[iv p1, iv p2, iv p3, iv p4, iv zs, iv fr, iv to, .val (.long dd), .second, .val (.long la), .second, iv (1 : Int32), .unset]) rfl ?_
            show SS p e below m s₁ 148 #[iv p1, iv p2, iv p3, iv p4, iv zs, iv fr, iv to, .val (.long dd), .second, .val (.long la), .second, iv (1 : Int32), .unset] [] _
            exact kk)
          obtain ⟨T301, h301, X301, e301, E301, A301, D301, -, st301⟩ := newO X0 hx hZ hown (hw _ (List.mem_of_getElem? (i := 4) rfl)) (hw _ (List.mem_of_getElem? (i := 5) rfl)) (hw _ (List.mem_of_getElem? (i := 6) rfl)) e0 (g := (mkF m 148 #[iv p1, iv p2, iv p3, iv p4, iv zs, iv fr, iv to, .val (.long dd), .second, .val (.long la), .second, iv (1 : Int32), .unset] [])) rfl (hb hby at_148) (by decide) (by decide)
          obtain ⟨b301, g301⟩ : ∃ z, z = h0.size := ⟨_, rfl⟩
          rw [← g301] at A301 D301 st301
          have g_b301 : n0 ≤ b301 := Nat.le_trans Z0 (Nat.le_of_eq g301.symm)
          have Z301 : n0 ≤ h301.size := Nat.le_trans Z0 E301.1
          have pre302 : ∀ t, SS p e below m T301 152 #[iv p1, iv p2, iv p3, iv p4, iv zs, iv fr, iv to, .val (.long dd), .second, .val (.long la), .second, iv (1 : Int32), .unset] [(.ref b301), (.ref b301)] t → B t := fun t kk => pre300 t (by
            refine st301 _ ?_
            show SS p e below m T301 151 #[iv p1, iv p2, iv p3, iv p4, iv zs, iv fr, iv to, .val (.long dd), .second, .val (.long la), .second, iv (1 : Int32), .unset] [(.ref b301)] _
            refine XS.dup X301.here hx rfl (hb hby at_151) rfl rfl ?_
            show SS p e below m T301 152 #[iv p1, iv p2, iv p3, iv p4, iv zs, iv fr, iv to, .val (.long dd), .second, .val (.long la), .second, iv (1 : Int32), .unset] [(.ref b301), (.ref b301)] _
            exact kk)
          obtain ⟨_, _, ⟨T303, L303, k303, n303⟩, -, X303, ⟨Lc303, hQ303, l303, y303, z303⟩, st303⟩ := X301.specialBack hx (y := (⟨"com/example/hermit_crab/hermitcrab/sim/Topology$Ring", "<init>", "()V"⟩ : MethodName)) rfl hown (mvT hZ (hw _ (List.mem_of_getElem? (i := 7) rfl))) (mvT hZ (hw _ (List.mem_of_getElem? (i := 8) rfl))) (mvT hZ (hw _ (List.mem_of_getElem? (i := 9) rfl))) (by decide) (backOf (W := 1) (rm1 l Z a0 hw [] b301 h301 n0 Z301 ) hZ (hw _ (List.mem_of_getElem? (i := 9) rfl)) (hw _ (List.mem_of_getElem? (i := 6) rfl)) (by decide) (by decide)) (g := (mkF m 152 #[iv p1, iv p2, iv p3, iv p4, iv zs, iv fr, iv to, .val (.long dd), .second, .val (.long la), .second, iv (1 : Int32), .unset] [(.ref b301), (.ref b301)])) rfl (by rw [hml]; rfl) (Steps.refl _) (a := b301) (argsL := []) (rest := [(.ref b301)]) (lenOf pd_0 rfl) rfl (by show 2 * 0 + _ ≤ _; exact Nat.le_of_eq rfl) (hb hby at_152) (fun _ _ => ⟨rfl, e301, (by decide : 1 + 0 ≤ _), (by decide : 0 + 0 ≤ _)⟩)
          dsimp only [Pt.U, Pt.locs, Pt.cells, Pt.slots] at X303 l303 y303 z303 st303 hQ303
          subst l303 y303 z303
          obtain ⟨rfl, N303q, e303⟩ := hQ303
          have N303 := Fr.app N0 N303q
          have pre304 : ∀ t, SS p e below m T303 165 #[iv p1, iv p2, iv p3, iv p4, iv zs, iv fr, iv to, .val (.long dd), .second, .val (.long la), .second, iv (1 : Int32), rv b301] [(.int zs), (.int to), (.int fr), (.ref b301)] t → B t := fun t kk => pre302 t (by
            refine st303.trans ?_
            show SS p e below m T303 155 #[iv p1, iv p2, iv p3, iv p4, iv zs, iv fr, iv to, .val (.long dd), .second, .val (.long la), .second, iv (1 : Int32), .unset] [(.ref b301)] _
            refine XS.astore X303.here hx rfl (hb hby at_155) rfl rfl (l' := #[iv p1, iv p2, iv p3, iv p4, iv zs, iv fr, iv to, .val (.long dd), .second, .val (.long la), .second, iv (1 : Int32), rv b301]) rfl ?_
            show SS p e below m T303 157 #[iv p1, iv p2, iv p3, iv p4, iv zs, iv fr, iv to, .val (.long dd), .second, .val (.long la), .second, iv (1 : Int32), rv b301] [] _
            refine XS.aload X303.here hx rfl (hb hby at_157) rfl rfl ?_
            show SS p e below m T303 159 #[iv p1, iv p2, iv p3, iv p4, iv zs, iv fr, iv to, .val (.long dd), .second, .val (.long la), .second, iv (1 : Int32), rv b301] [(.ref b301)] _
            refine XS.iload X303.here hx rfl (hb hby at_159) rfl ?_
            show SS p e below m T303 161 #[iv p1, iv p2, iv p3, iv p4, iv zs, iv fr, iv to, .val (.long dd), .second, .val (.long la), .second, iv (1 : Int32), rv b301] [(.int fr), (.ref b301)] _
            refine XS.iload X303.here hx rfl (hb hby at_161) rfl ?_
            show SS p e below m T303 163 #[iv p1, iv p2, iv p3, iv p4, iv zs, iv fr, iv to, .val (.long dd), .second, .val (.long la), .second, iv (1 : Int32), rv b301] [(.int to), (.int fr), (.ref b301)] _
            refine XS.iload X303.here hx rfl (hb hby at_163) rfl ?_
            show SS p e below m T303 165 #[iv p1, iv p2, iv p3, iv p4, iv zs, iv fr, iv to, .val (.long dd), .second, .val (.long la), .second, iv (1 : Int32), rv b301] [(.int zs), (.int to), (.int fr), (.ref b301)] _
            exact kk)
          obtain ⟨cq305, kq305, q305a, q305b, q305c⟩ := isOf hZ e303 A301
          obtain ⟨_, _, ⟨T305, L305, k305, n305⟩, -, X305, ⟨Lc305, hQ305, l305, y305, z305⟩, st305⟩ := X303.virtualBack hx (y := (⟨"com/example/hermit_crab/hermitcrab/sim/Topology$Ring", "links", "(III)Z"⟩ : MethodName)) (z := (⟨"com/example/hermit_crab/hermitcrab/sim/Topology$Ring", "links", "(III)Z"⟩ : MethodName)) hown (mvT hZ (hw _ (List.mem_of_getElem? (i := 18) rfl))) (mvT hZ (hw _ (List.mem_of_getElem? (i := 19) rfl))) (notFace_of_selects (args := #[]) (mvT hZ (hw _ (List.mem_of_getElem? (i := 21) rfl)))) (mvT hZ (hw _ (List.mem_of_getElem? (i := 21) rfl))) (mvT hZ (hw _ (List.mem_of_getElem? (i := 20) rfl))) (by decide) (backOf (W := 0) (rm4 l Z a0 hw [] b301 fr to zs h301 n0 Z301 hnz0) hZ (hw _ (List.mem_of_getElem? (i := 22) rfl)) (hw _ (List.mem_of_getElem? (i := 6) rfl)) (by decide) (by decide)) q305a q305c (g := (mkF m 165 #[iv p1, iv p2, iv p3, iv p4, iv zs, iv fr, iv to, .val (.long dd), .second, .val (.long la), .second, iv (1 : Int32), rv b301] [(.int zs), (.int to), (.int fr), (.ref b301)])) rfl (by rw [hml]; rfl) (Steps.refl _) (argsL := [(.int fr), (.int to), (.int zs)]) (rest := []) (lenOf pd_1 rfl) rfl (by show 2 * 0 + _ ≤ _; exact Nat.le_of_eq rfl) (hb hby at_165) (fun _ _ => ⟨rfl, e303, (by decide : 1 + 0 ≤ _), (by decide : 0 + 0 ≤ _)⟩)
          dsimp only [Pt.U, Pt.locs, Pt.cells, Pt.slots] at X305 l305 y305 z305 st305 hQ305
          subst l305 y305 z305
          obtain ⟨rfl, N305q, e305⟩ := hQ305
          have N305 := Fr.app N303 N305q
          have pre307 : ∀ t, SS p e below m T305 170 #[iv p1, iv p2, iv p3, iv p4, iv zs, iv fr, iv to, .val (.long dd), .second, .val (.long la), .second, iv (1 : Int32), rv b301] [(.int (1 : Int32)), (.int (f4 fr to zs))] t → B t := fun t kk => pre304 t (by
            refine st305.trans ?_
            show SS p e below m T305 168 #[iv p1, iv p2, iv p3, iv p4, iv zs, iv fr, iv to, .val (.long dd), .second, .val (.long la), .second, iv (1 : Int32), rv b301] [(.int (f4 fr to zs))] _
            refine XS.iload X305.here hx rfl (hb hby at_168) rfl ?_
            show SS p e below m T305 170 #[iv p1, iv p2, iv p3, iv p4, iv zs, iv fr, iv to, .val (.long dd), .second, .val (.long la), .second, iv (1 : Int32), rv b301] [(.int (1 : Int32)), (.int (f4 fr to zs))] _
            exact kk)
          have hq308 : (f4 fr to zs) = (1 : Int32) := by
            rw [own_links _ _ _ hz hfr hto]
            have u306 := (lw_eq dd (1 : Int64)).mp hc299
            rw [← Int64.toInt_inj] at u306
            have J1 : (1 : Int64).toInt = 1 := by decide
            have Jm : (-1 : Int64).toInt = -1 := by decide
            rw [if_pos (by omega)]
          have pre309 : ∀ t, SS p e below m T305 178 #[iv p1, iv p2, iv p3, iv p4, iv zs, iv fr, iv to, .val (.long dd), .second, .val (.long la), .second, iv (1 : Int32), rv b301] [(.int (1 : Int32))] t → B t := fun t kk => pre307 t (by
            refine XS.icmpNo X305.here hx rfl (hb hby at_170) rfl (teq hq308).2 ?_
            show SS p e below m T305 173 #[iv p1, iv p2, iv p3, iv p4, iv zs, iv fr, iv to, .val (.long dd), .second, .val (.long la), .second, iv (1 : Int32), rv b301] [] _
            refine XS.iconst X305.here hx rfl (hb hby at_173) ?_
            show SS p e below m T305 174 #[iv p1, iv p2, iv p3, iv p4, iv zs, iv fr, iv to, .val (.long dd), .second, .val (.long la), .second, iv (1 : Int32), rv b301] [(.int (1 : Int32))] _
            refine XS.goto X305.here hx rfl (pc0 := 174) (pc' := 178) rfl (hb hby at_174) (by decide) (by decide) ?_
            show SS p e below m T305 178 #[iv p1, iv p2, iv p3, iv p4, iv zs, iv fr, iv to, .val (.long dd), .second, .val (.long la), .second, iv (1 : Int32), rv b301] [(.int (1 : Int32))] _
            exact kk)
          obtain ⟨fs, hr, hrun, hended, hW, hsame⟩ := X305.leave (v := some (.int (1 : Int32))) (fun h => by rw [Bd.returns] at h; cases h)
          refine ⟨_, _, hB _ (pre309 _ ?_), hrun, hended, _, _, rfl, ?_, ⟨_, rfl⟩, hW, hsame.mono (by decide) (by decide)⟩
          · exact retN X305 hx (t := .boolean) Bd.returns (by simp) (hb hby at_178) hr
          · exact ⟨rfl, N305⟩
        · have pre310 : ∀ t, SS p e below m s₁ 121 #[iv p1, iv p2, iv p3, iv p4, iv zs, iv fr, iv to, .val (.long dd), .second, .val (.long la), .second, .unset, .unset] [(.int (lcmpW dd (-1 : Int64)))] t → B t := fun t kk => pre298 t (by
            refine XS.ifNo X0.here hx rfl (hb hby at_112) rfl ((if0 _ _).trans (feq hc299).1) ?_
            show SS p e below m s₁ 115 #[iv p1, iv p2, iv p3, iv p4, iv zs, iv fr, iv to, .val (.long dd), .second, .val (.long la), .second, .unset, .unset] [] _
            refine XS.lload X0.here hx rfl (hb hby at_115) rfl ?_
            show SS p e below m s₁ 117 #[iv p1, iv p2, iv p3, iv p4, iv zs, iv fr, iv to, .val (.long dd), .second, .val (.long la), .second, .unset, .unset] [(.long dd)] _
            refine X0.ldc2Long hx hown (mvT hZ (hw _ (List.mem_of_getElem? (i := 3) rfl))) (g := (mkF m 117 #[iv p1, iv p2, iv p3, iv p4, iv zs, iv fr, iv to, .val (.long dd), .second, .val (.long la), .second, .unset, .unset] [(.long dd)])) rfl (hb hby at_117) _ ?_
            show SS p e below m s₁ 120 #[iv p1, iv p2, iv p3, iv p4, iv zs, iv fr, iv to, .val (.long dd), .second, .val (.long la), .second, .unset, .unset] [(.long (-1 : Int64)), (.long dd)] _
            refine XS.lcmp X0.here hx rfl (hb hby at_120) rfl ?_
            show SS p e below m s₁ 121 #[iv p1, iv p2, iv p3, iv p4, iv zs, iv fr, iv to, .val (.long dd), .second, .val (.long la), .second, .unset, .unset] [(.int (lcmpW dd (-1 : Int64)))] _
            exact kk)
          by_cases hc311 : (lcmpW dd (-1 : Int64)) = (0 : Int32)
          · have pre312 : ∀ t, SS p e below m s₁ 148 #[iv p1, iv p2, iv p3, iv p4, iv zs, iv fr, iv to, .val (.long dd), .second, .val (.long la), .second, iv (1 : Int32), .unset] [] t → B t := fun t kk => pre310 t (by
              refine XS.ifYes X0.here hx rfl (pc0 := 121) (pc' := 141) rfl (hb hby at_121) rfl ((if0 _ _).trans (teq hc311).1) (by decide) (by decide) ?_
              show SS p e below m s₁ 141 #[iv p1, iv p2, iv p3, iv p4, iv zs, iv fr, iv to, .val (.long dd), .second, .val (.long la), .second, .unset, .unset] [] _
              refine XS.iconst X0.here hx rfl (hb hby at_141) ?_
              show SS p e below m s₁ 142 #[iv p1, iv p2, iv p3, iv p4, iv zs, iv fr, iv to, .val (.long dd), .second, .val (.long la), .second, .unset, .unset] [(.int (1 : Int32))] _
              refine XS.goto X0.here hx rfl (pc0 := 142) (pc' := 146) rfl (hb hby at_142) (by decide) (by decide) ?_
              show SS p e below m s₁ 146 #[iv p1, iv p2, iv p3, iv p4, iv zs, iv fr, iv to, .val (.long dd), .second, .val (.long la), .second, .unset, .unset] [(.int (1 : Int32))] _
              refine XS.istore X0.here hx rfl (hb hby at_146) rfl (l' := #[iv p1, iv p2, iv p3, iv p4, iv zs, iv fr, iv to, .val (.long dd), .second, .val (.long la), .second, iv (1 : Int32), .unset]) rfl ?_
              show SS p e below m s₁ 148 #[iv p1, iv p2, iv p3, iv p4, iv zs, iv fr, iv to, .val (.long dd), .second, .val (.long la), .second, iv (1 : Int32), .unset] [] _
              exact kk)
            obtain ⟨T313, h313, X313, e313, E313, A313, D313, -, st313⟩ := newO X0 hx hZ hown (hw _ (List.mem_of_getElem? (i := 4) rfl)) (hw _ (List.mem_of_getElem? (i := 5) rfl)) (hw _ (List.mem_of_getElem? (i := 6) rfl)) e0 (g := (mkF m 148 #[iv p1, iv p2, iv p3, iv p4, iv zs, iv fr, iv to, .val (.long dd), .second, .val (.long la), .second, iv (1 : Int32), .unset] [])) rfl (hb hby at_148) (by decide) (by decide)
            obtain ⟨b313, g313⟩ : ∃ z, z = h0.size := ⟨_, rfl⟩
            rw [← g313] at A313 D313 st313
            have g_b313 : n0 ≤ b313 := Nat.le_trans Z0 (Nat.le_of_eq g313.symm)
            have Z313 : n0 ≤ h313.size := Nat.le_trans Z0 E313.1
            have pre314 : ∀ t, SS p e below m T313 152 #[iv p1, iv p2, iv p3, iv p4, iv zs, iv fr, iv to, .val (.long dd), .second, .val (.long la), .second, iv (1 : Int32), .unset] [(.ref b313), (.ref b313)] t → B t := fun t kk => pre312 t (by
              refine st313 _ ?_
              show SS p e below m T313 151 #[iv p1, iv p2, iv p3, iv p4, iv zs, iv fr, iv to, .val (.long dd), .second, .val (.long la), .second, iv (1 : Int32), .unset] [(.ref b313)] _
              refine XS.dup X313.here hx rfl (hb hby at_151) rfl rfl ?_
              show SS p e below m T313 152 #[iv p1, iv p2, iv p3, iv p4, iv zs, iv fr, iv to, .val (.long dd), .second, .val (.long la), .second, iv (1 : Int32), .unset] [(.ref b313), (.ref b313)] _
              exact kk)
            obtain ⟨_, _, ⟨T315, L315, k315, n315⟩, -, X315, ⟨Lc315, hQ315, l315, y315, z315⟩, st315⟩ := X313.specialBack hx (y := (⟨"com/example/hermit_crab/hermitcrab/sim/Topology$Ring", "<init>", "()V"⟩ : MethodName)) rfl hown (mvT hZ (hw _ (List.mem_of_getElem? (i := 7) rfl))) (mvT hZ (hw _ (List.mem_of_getElem? (i := 8) rfl))) (mvT hZ (hw _ (List.mem_of_getElem? (i := 9) rfl))) (by decide) (backOf (W := 1) (rm1 l Z a0 hw [] b313 h313 n0 Z313 ) hZ (hw _ (List.mem_of_getElem? (i := 9) rfl)) (hw _ (List.mem_of_getElem? (i := 6) rfl)) (by decide) (by decide)) (g := (mkF m 152 #[iv p1, iv p2, iv p3, iv p4, iv zs, iv fr, iv to, .val (.long dd), .second, .val (.long la), .second, iv (1 : Int32), .unset] [(.ref b313), (.ref b313)])) rfl (by rw [hml]; rfl) (Steps.refl _) (a := b313) (argsL := []) (rest := [(.ref b313)]) (lenOf pd_0 rfl) rfl (by show 2 * 0 + _ ≤ _; exact Nat.le_of_eq rfl) (hb hby at_152) (fun _ _ => ⟨rfl, e313, (by decide : 1 + 0 ≤ _), (by decide : 0 + 0 ≤ _)⟩)
            dsimp only [Pt.U, Pt.locs, Pt.cells, Pt.slots] at X315 l315 y315 z315 st315 hQ315
            subst l315 y315 z315
            obtain ⟨rfl, N315q, e315⟩ := hQ315
            have N315 := Fr.app N0 N315q
            have pre316 : ∀ t, SS p e below m T315 165 #[iv p1, iv p2, iv p3, iv p4, iv zs, iv fr, iv to, .val (.long dd), .second, .val (.long la), .second, iv (1 : Int32), rv b313] [(.int zs), (.int to), (.int fr), (.ref b313)] t → B t := fun t kk => pre314 t (by
              refine st315.trans ?_
              show SS p e below m T315 155 #[iv p1, iv p2, iv p3, iv p4, iv zs, iv fr, iv to, .val (.long dd), .second, .val (.long la), .second, iv (1 : Int32), .unset] [(.ref b313)] _
              refine XS.astore X315.here hx rfl (hb hby at_155) rfl rfl (l' := #[iv p1, iv p2, iv p3, iv p4, iv zs, iv fr, iv to, .val (.long dd), .second, .val (.long la), .second, iv (1 : Int32), rv b313]) rfl ?_
              show SS p e below m T315 157 #[iv p1, iv p2, iv p3, iv p4, iv zs, iv fr, iv to, .val (.long dd), .second, .val (.long la), .second, iv (1 : Int32), rv b313] [] _
              refine XS.aload X315.here hx rfl (hb hby at_157) rfl rfl ?_
              show SS p e below m T315 159 #[iv p1, iv p2, iv p3, iv p4, iv zs, iv fr, iv to, .val (.long dd), .second, .val (.long la), .second, iv (1 : Int32), rv b313] [(.ref b313)] _
              refine XS.iload X315.here hx rfl (hb hby at_159) rfl ?_
              show SS p e below m T315 161 #[iv p1, iv p2, iv p3, iv p4, iv zs, iv fr, iv to, .val (.long dd), .second, .val (.long la), .second, iv (1 : Int32), rv b313] [(.int fr), (.ref b313)] _
              refine XS.iload X315.here hx rfl (hb hby at_161) rfl ?_
              show SS p e below m T315 163 #[iv p1, iv p2, iv p3, iv p4, iv zs, iv fr, iv to, .val (.long dd), .second, .val (.long la), .second, iv (1 : Int32), rv b313] [(.int to), (.int fr), (.ref b313)] _
              refine XS.iload X315.here hx rfl (hb hby at_163) rfl ?_
              show SS p e below m T315 165 #[iv p1, iv p2, iv p3, iv p4, iv zs, iv fr, iv to, .val (.long dd), .second, .val (.long la), .second, iv (1 : Int32), rv b313] [(.int zs), (.int to), (.int fr), (.ref b313)] _
              exact kk)
            obtain ⟨cq317, kq317, q317a, q317b, q317c⟩ := isOf hZ e315 A313
            obtain ⟨_, _, ⟨T317, L317, k317, n317⟩, -, X317, ⟨Lc317, hQ317, l317, y317, z317⟩, st317⟩ := X315.virtualBack hx (y := (⟨"com/example/hermit_crab/hermitcrab/sim/Topology$Ring", "links", "(III)Z"⟩ : MethodName)) (z := (⟨"com/example/hermit_crab/hermitcrab/sim/Topology$Ring", "links", "(III)Z"⟩ : MethodName)) hown (mvT hZ (hw _ (List.mem_of_getElem? (i := 18) rfl))) (mvT hZ (hw _ (List.mem_of_getElem? (i := 19) rfl))) (notFace_of_selects (args := #[]) (mvT hZ (hw _ (List.mem_of_getElem? (i := 21) rfl)))) (mvT hZ (hw _ (List.mem_of_getElem? (i := 21) rfl))) (mvT hZ (hw _ (List.mem_of_getElem? (i := 20) rfl))) (by decide) (backOf (W := 0) (rm4 l Z a0 hw [] b313 fr to zs h313 n0 Z313 hnz0) hZ (hw _ (List.mem_of_getElem? (i := 22) rfl)) (hw _ (List.mem_of_getElem? (i := 6) rfl)) (by decide) (by decide)) q317a q317c (g := (mkF m 165 #[iv p1, iv p2, iv p3, iv p4, iv zs, iv fr, iv to, .val (.long dd), .second, .val (.long la), .second, iv (1 : Int32), rv b313] [(.int zs), (.int to), (.int fr), (.ref b313)])) rfl (by rw [hml]; rfl) (Steps.refl _) (argsL := [(.int fr), (.int to), (.int zs)]) (rest := []) (lenOf pd_1 rfl) rfl (by show 2 * 0 + _ ≤ _; exact Nat.le_of_eq rfl) (hb hby at_165) (fun _ _ => ⟨rfl, e315, (by decide : 1 + 0 ≤ _), (by decide : 0 + 0 ≤ _)⟩)
            dsimp only [Pt.U, Pt.locs, Pt.cells, Pt.slots] at X317 l317 y317 z317 st317 hQ317
            subst l317 y317 z317
            obtain ⟨rfl, N317q, e317⟩ := hQ317
            have N317 := Fr.app N315 N317q
            have pre320 : ∀ t, SS p e below m T317 170 #[iv p1, iv p2, iv p3, iv p4, iv zs, iv fr, iv to, .val (.long dd), .second, .val (.long la), .second, iv (1 : Int32), rv b313] [(.int (1 : Int32)), (.int (f4 fr to zs))] t → B t := fun t kk => pre316 t (by
              refine st317.trans ?_
              show SS p e below m T317 168 #[iv p1, iv p2, iv p3, iv p4, iv zs, iv fr, iv to, .val (.long dd), .second, .val (.long la), .second, iv (1 : Int32), rv b313] [(.int (f4 fr to zs))] _
              refine XS.iload X317.here hx rfl (hb hby at_168) rfl ?_
              show SS p e below m T317 170 #[iv p1, iv p2, iv p3, iv p4, iv zs, iv fr, iv to, .val (.long dd), .second, .val (.long la), .second, iv (1 : Int32), rv b313] [(.int (1 : Int32)), (.int (f4 fr to zs))] _
              exact kk)
            have hq321 : (f4 fr to zs) = (1 : Int32) := by
              rw [own_links _ _ _ hz hfr hto]
              have u318 := mt (lw_eq dd (1 : Int64)).mpr hc299
              rw [← Int64.toInt_inj] at u318
              have u319 := (lw_eq dd (-1 : Int64)).mp hc311
              rw [← Int64.toInt_inj] at u319
              have J1 : (1 : Int64).toInt = 1 := by decide
              have Jm : (-1 : Int64).toInt = -1 := by decide
              rw [if_pos (by omega)]
            have pre322 : ∀ t, SS p e below m T317 178 #[iv p1, iv p2, iv p3, iv p4, iv zs, iv fr, iv to, .val (.long dd), .second, .val (.long la), .second, iv (1 : Int32), rv b313] [(.int (1 : Int32))] t → B t := fun t kk => pre320 t (by
              refine XS.icmpNo X317.here hx rfl (hb hby at_170) rfl (teq hq321).2 ?_
              show SS p e below m T317 173 #[iv p1, iv p2, iv p3, iv p4, iv zs, iv fr, iv to, .val (.long dd), .second, .val (.long la), .second, iv (1 : Int32), rv b313] [] _
              refine XS.iconst X317.here hx rfl (hb hby at_173) ?_
              show SS p e below m T317 174 #[iv p1, iv p2, iv p3, iv p4, iv zs, iv fr, iv to, .val (.long dd), .second, .val (.long la), .second, iv (1 : Int32), rv b313] [(.int (1 : Int32))] _
              refine XS.goto X317.here hx rfl (pc0 := 174) (pc' := 178) rfl (hb hby at_174) (by decide) (by decide) ?_
              show SS p e below m T317 178 #[iv p1, iv p2, iv p3, iv p4, iv zs, iv fr, iv to, .val (.long dd), .second, .val (.long la), .second, iv (1 : Int32), rv b313] [(.int (1 : Int32))] _
              exact kk)
            obtain ⟨fs, hr, hrun, hended, hW, hsame⟩ := X317.leave (v := some (.int (1 : Int32))) (fun h => by rw [Bd.returns] at h; cases h)
            refine ⟨_, _, hB _ (pre322 _ ?_), hrun, hended, _, _, rfl, ?_, ⟨_, rfl⟩, hW, hsame.mono (by decide) (by decide)⟩
            · exact retN X317 hx (t := .boolean) Bd.returns (by simp) (hb hby at_178) hr
            · exact ⟨rfl, N317⟩
          · have pre323 : ∀ t, SS p e below m s₁ 129 #[iv p1, iv p2, iv p3, iv p4, iv zs, iv fr, iv to, .val (.long dd), .second, .val (.long la), .second, .unset, .unset] [(.int (lcmpW dd la))] t → B t := fun t kk => pre310 t (by
              refine XS.ifNo X0.here hx rfl (hb hby at_121) rfl ((if0 _ _).trans (feq hc311).1) ?_
              show SS p e below m s₁ 124 #[iv p1, iv p2, iv p3, iv p4, iv zs, iv fr, iv to, .val (.long dd), .second, .val (.long la), .second, .unset, .unset] [] _
              refine XS.lload X0.here hx rfl (hb hby at_124) rfl ?_
              show SS p e below m s₁ 126 #[iv p1, iv p2, iv p3, iv p4, iv zs, iv fr, iv to, .val (.long dd), .second, .val (.long la), .second, .unset, .unset] [(.long dd)] _
              refine XS.lload X0.here hx rfl (hb hby at_126) rfl ?_
              show SS p e below m s₁ 128 #[iv p1, iv p2, iv p3, iv p4, iv zs, iv fr, iv to, .val (.long dd), .second, .val (.long la), .second, .unset, .unset] [(.long la), (.long dd)] _
              refine XS.lcmp X0.here hx rfl (hb hby at_128) rfl ?_
              show SS p e below m s₁ 129 #[iv p1, iv p2, iv p3, iv p4, iv zs, iv fr, iv to, .val (.long dd), .second, .val (.long la), .second, .unset, .unset] [(.int (lcmpW dd la))] _
              exact kk)
            by_cases hc324 : (lcmpW dd la) = (0 : Int32)
            · have pre325 : ∀ t, SS p e below m s₁ 148 #[iv p1, iv p2, iv p3, iv p4, iv zs, iv fr, iv to, .val (.long dd), .second, .val (.long la), .second, iv (1 : Int32), .unset] [] t → B t := fun t kk => pre323 t (by
                refine XS.ifYes X0.here hx rfl (pc0 := 129) (pc' := 141) rfl (hb hby at_129) rfl ((if0 _ _).trans (teq hc324).1) (by decide) (by decide) ?_
                show SS p e below m s₁ 141 #[iv p1, iv p2, iv p3, iv p4, iv zs, iv fr, iv to, .val (.long dd), .second, .val (.long la), .second, .unset, .unset] [] _
                refine XS.iconst X0.here hx rfl (hb hby at_141) ?_
                show SS p e below m s₁ 142 #[iv p1, iv p2, iv p3, iv p4, iv zs, iv fr, iv to, .val (.long dd), .second, .val (.long la), .second, .unset, .unset] [(.int (1 : Int32))] _
                refine XS.goto X0.here hx rfl (pc0 := 142) (pc' := 146) rfl (hb hby at_142) (by decide) (by decide) ?_
                show SS p e below m s₁ 146 #[iv p1, iv p2, iv p3, iv p4, iv zs, iv fr, iv to, .val (.long dd), .second, .val (.long la), .second, .unset, .unset] [(.int (1 : Int32))] _
                refine XS.istore X0.here hx rfl (hb hby at_146) rfl (l' := #[iv p1, iv p2, iv p3, iv p4, iv zs, iv fr, iv to, .val (.long dd), .second, .val (.long la), .second, iv (1 : Int32), .unset]) rfl ?_
                show SS p e below m s₁ 148 #[iv p1, iv p2, iv p3, iv p4, iv zs, iv fr, iv to, .val (.long dd), .second, .val (.long la), .second, iv (1 : Int32), .unset] [] _
                exact kk)
              obtain ⟨T326, h326, X326, e326, E326, A326, D326, -, st326⟩ := newO X0 hx hZ hown (hw _ (List.mem_of_getElem? (i := 4) rfl)) (hw _ (List.mem_of_getElem? (i := 5) rfl)) (hw _ (List.mem_of_getElem? (i := 6) rfl)) e0 (g := (mkF m 148 #[iv p1, iv p2, iv p3, iv p4, iv zs, iv fr, iv to, .val (.long dd), .second, .val (.long la), .second, iv (1 : Int32), .unset] [])) rfl (hb hby at_148) (by decide) (by decide)
              obtain ⟨b326, g326⟩ : ∃ z, z = h0.size := ⟨_, rfl⟩
              rw [← g326] at A326 D326 st326
              have g_b326 : n0 ≤ b326 := Nat.le_trans Z0 (Nat.le_of_eq g326.symm)
              have Z326 : n0 ≤ h326.size := Nat.le_trans Z0 E326.1
              have pre327 : ∀ t, SS p e below m T326 152 #[iv p1, iv p2, iv p3, iv p4, iv zs, iv fr, iv to, .val (.long dd), .second, .val (.long la), .second, iv (1 : Int32), .unset] [(.ref b326), (.ref b326)] t → B t := fun t kk => pre325 t (by
                refine st326 _ ?_
                show SS p e below m T326 151 #[iv p1, iv p2, iv p3, iv p4, iv zs, iv fr, iv to, .val (.long dd), .second, .val (.long la), .second, iv (1 : Int32), .unset] [(.ref b326)] _
                refine XS.dup X326.here hx rfl (hb hby at_151) rfl rfl ?_
                show SS p e below m T326 152 #[iv p1, iv p2, iv p3, iv p4, iv zs, iv fr, iv to, .val (.long dd), .second, .val (.long la), .second, iv (1 : Int32), .unset] [(.ref b326), (.ref b326)] _
                exact kk)
              obtain ⟨_, _, ⟨T328, L328, k328, n328⟩, -, X328, ⟨Lc328, hQ328, l328, y328, z328⟩, st328⟩ := X326.specialBack hx (y := (⟨"com/example/hermit_crab/hermitcrab/sim/Topology$Ring", "<init>", "()V"⟩ : MethodName)) rfl hown (mvT hZ (hw _ (List.mem_of_getElem? (i := 7) rfl))) (mvT hZ (hw _ (List.mem_of_getElem? (i := 8) rfl))) (mvT hZ (hw _ (List.mem_of_getElem? (i := 9) rfl))) (by decide) (backOf (W := 1) (rm1 l Z a0 hw [] b326 h326 n0 Z326 ) hZ (hw _ (List.mem_of_getElem? (i := 9) rfl)) (hw _ (List.mem_of_getElem? (i := 6) rfl)) (by decide) (by decide)) (g := (mkF m 152 #[iv p1, iv p2, iv p3, iv p4, iv zs, iv fr, iv to, .val (.long dd), .second, .val (.long la), .second, iv (1 : Int32), .unset] [(.ref b326), (.ref b326)])) rfl (by rw [hml]; rfl) (Steps.refl _) (a := b326) (argsL := []) (rest := [(.ref b326)]) (lenOf pd_0 rfl) rfl (by show 2 * 0 + _ ≤ _; exact Nat.le_of_eq rfl) (hb hby at_152) (fun _ _ => ⟨rfl, e326, (by decide : 1 + 0 ≤ _), (by decide : 0 + 0 ≤ _)⟩)
              dsimp only [Pt.U, Pt.locs, Pt.cells, Pt.slots] at X328 l328 y328 z328 st328 hQ328
              subst l328 y328 z328
              obtain ⟨rfl, N328q, e328⟩ := hQ328
              have N328 := Fr.app N0 N328q
              have pre329 : ∀ t, SS p e below m T328 165 #[iv p1, iv p2, iv p3, iv p4, iv zs, iv fr, iv to, .val (.long dd), .second, .val (.long la), .second, iv (1 : Int32), rv b326] [(.int zs), (.int to), (.int fr), (.ref b326)] t → B t := fun t kk => pre327 t (by
                refine st328.trans ?_
                show SS p e below m T328 155 #[iv p1, iv p2, iv p3, iv p4, iv zs, iv fr, iv to, .val (.long dd), .second, .val (.long la), .second, iv (1 : Int32), .unset] [(.ref b326)] _
                refine XS.astore X328.here hx rfl (hb hby at_155) rfl rfl (l' := #[iv p1, iv p2, iv p3, iv p4, iv zs, iv fr, iv to, .val (.long dd), .second, .val (.long la), .second, iv (1 : Int32), rv b326]) rfl ?_
                show SS p e below m T328 157 #[iv p1, iv p2, iv p3, iv p4, iv zs, iv fr, iv to, .val (.long dd), .second, .val (.long la), .second, iv (1 : Int32), rv b326] [] _
                refine XS.aload X328.here hx rfl (hb hby at_157) rfl rfl ?_
                show SS p e below m T328 159 #[iv p1, iv p2, iv p3, iv p4, iv zs, iv fr, iv to, .val (.long dd), .second, .val (.long la), .second, iv (1 : Int32), rv b326] [(.ref b326)] _
                refine XS.iload X328.here hx rfl (hb hby at_159) rfl ?_
                show SS p e below m T328 161 #[iv p1, iv p2, iv p3, iv p4, iv zs, iv fr, iv to, .val (.long dd), .second, .val (.long la), .second, iv (1 : Int32), rv b326] [(.int fr), (.ref b326)] _
                refine XS.iload X328.here hx rfl (hb hby at_161) rfl ?_
                show SS p e below m T328 163 #[iv p1, iv p2, iv p3, iv p4, iv zs, iv fr, iv to, .val (.long dd), .second, .val (.long la), .second, iv (1 : Int32), rv b326] [(.int to), (.int fr), (.ref b326)] _
                refine XS.iload X328.here hx rfl (hb hby at_163) rfl ?_
                show SS p e below m T328 165 #[iv p1, iv p2, iv p3, iv p4, iv zs, iv fr, iv to, .val (.long dd), .second, .val (.long la), .second, iv (1 : Int32), rv b326] [(.int zs), (.int to), (.int fr), (.ref b326)] _
                exact kk)
              obtain ⟨cq330, kq330, q330a, q330b, q330c⟩ := isOf hZ e328 A326
              obtain ⟨_, _, ⟨T330, L330, k330, n330⟩, -, X330, ⟨Lc330, hQ330, l330, y330, z330⟩, st330⟩ := X328.virtualBack hx (y := (⟨"com/example/hermit_crab/hermitcrab/sim/Topology$Ring", "links", "(III)Z"⟩ : MethodName)) (z := (⟨"com/example/hermit_crab/hermitcrab/sim/Topology$Ring", "links", "(III)Z"⟩ : MethodName)) hown (mvT hZ (hw _ (List.mem_of_getElem? (i := 18) rfl))) (mvT hZ (hw _ (List.mem_of_getElem? (i := 19) rfl))) (notFace_of_selects (args := #[]) (mvT hZ (hw _ (List.mem_of_getElem? (i := 21) rfl)))) (mvT hZ (hw _ (List.mem_of_getElem? (i := 21) rfl))) (mvT hZ (hw _ (List.mem_of_getElem? (i := 20) rfl))) (by decide) (backOf (W := 0) (rm4 l Z a0 hw [] b326 fr to zs h326 n0 Z326 hnz0) hZ (hw _ (List.mem_of_getElem? (i := 22) rfl)) (hw _ (List.mem_of_getElem? (i := 6) rfl)) (by decide) (by decide)) q330a q330c (g := (mkF m 165 #[iv p1, iv p2, iv p3, iv p4, iv zs, iv fr, iv to, .val (.long dd), .second, .val (.long la), .second, iv (1 : Int32), rv b326] [(.int zs), (.int to), (.int fr), (.ref b326)])) rfl (by rw [hml]; rfl) (Steps.refl _) (argsL := [(.int fr), (.int to), (.int zs)]) (rest := []) (lenOf pd_1 rfl) rfl (by show 2 * 0 + _ ≤ _; exact Nat.le_of_eq rfl) (hb hby at_165) (fun _ _ => ⟨rfl, e328, (by decide : 1 + 0 ≤ _), (by decide : 0 + 0 ≤ _)⟩)
              dsimp only [Pt.U, Pt.locs, Pt.cells, Pt.slots] at X330 l330 y330 z330 st330 hQ330
              subst l330 y330 z330
              obtain ⟨rfl, N330q, e330⟩ := hQ330
              have N330 := Fr.app N328 N330q
              have pre334 : ∀ t, SS p e below m T330 170 #[iv p1, iv p2, iv p3, iv p4, iv zs, iv fr, iv to, .val (.long dd), .second, .val (.long la), .second, iv (1 : Int32), rv b326] [(.int (1 : Int32)), (.int (f4 fr to zs))] t → B t := fun t kk => pre329 t (by
                refine st330.trans ?_
                show SS p e below m T330 168 #[iv p1, iv p2, iv p3, iv p4, iv zs, iv fr, iv to, .val (.long dd), .second, .val (.long la), .second, iv (1 : Int32), rv b326] [(.int (f4 fr to zs))] _
                refine XS.iload X330.here hx rfl (hb hby at_168) rfl ?_
                show SS p e below m T330 170 #[iv p1, iv p2, iv p3, iv p4, iv zs, iv fr, iv to, .val (.long dd), .second, .val (.long la), .second, iv (1 : Int32), rv b326] [(.int (1 : Int32)), (.int (f4 fr to zs))] _
                exact kk)
              have hq335 : (f4 fr to zs) = (1 : Int32) := by
                rw [own_links _ _ _ hz hfr hto]
                have u331 := mt (lw_eq dd (1 : Int64)).mpr hc299
                rw [← Int64.toInt_inj] at u331
                have u332 := mt (lw_eq dd (-1 : Int64)).mpr hc311
                rw [← Int64.toInt_inj] at u332
                have u333 := (lw_eq dd la).mp hc324
                rw [← Int64.toInt_inj] at u333
                have J1 : (1 : Int64).toInt = 1 := by decide
                have Jm : (-1 : Int64).toInt = -1 := by decide
                rw [if_pos (by omega)]
              have pre336 : ∀ t, SS p e below m T330 178 #[iv p1, iv p2, iv p3, iv p4, iv zs, iv fr, iv to, .val (.long dd), .second, .val (.long la), .second, iv (1 : Int32), rv b326] [(.int (1 : Int32))] t → B t := fun t kk => pre334 t (by
                refine XS.icmpNo X330.here hx rfl (hb hby at_170) rfl (teq hq335).2 ?_
                show SS p e below m T330 173 #[iv p1, iv p2, iv p3, iv p4, iv zs, iv fr, iv to, .val (.long dd), .second, .val (.long la), .second, iv (1 : Int32), rv b326] [] _
                refine XS.iconst X330.here hx rfl (hb hby at_173) ?_
                show SS p e below m T330 174 #[iv p1, iv p2, iv p3, iv p4, iv zs, iv fr, iv to, .val (.long dd), .second, .val (.long la), .second, iv (1 : Int32), rv b326] [(.int (1 : Int32))] _
                refine XS.goto X330.here hx rfl (pc0 := 174) (pc' := 178) rfl (hb hby at_174) (by decide) (by decide) ?_
                show SS p e below m T330 178 #[iv p1, iv p2, iv p3, iv p4, iv zs, iv fr, iv to, .val (.long dd), .second, .val (.long la), .second, iv (1 : Int32), rv b326] [(.int (1 : Int32))] _
                exact kk)
              obtain ⟨fs, hr, hrun, hended, hW, hsame⟩ := X330.leave (v := some (.int (1 : Int32))) (fun h => by rw [Bd.returns] at h; cases h)
              refine ⟨_, _, hB _ (pre336 _ ?_), hrun, hended, _, _, rfl, ?_, ⟨_, rfl⟩, hW, hsame.mono (by decide) (by decide)⟩
              · exact retN X330 hx (t := .boolean) Bd.returns (by simp) (hb hby at_178) hr
              · exact ⟨rfl, N330⟩
            · have pre337 : ∀ t, SS p e below m s₁ 138 #[iv p1, iv p2, iv p3, iv p4, iv zs, iv fr, iv to, .val (.long dd), .second, .val (.long la), .second, .unset, .unset] [(.int (lcmpW dd (-la)))] t → B t := fun t kk => pre323 t (by
                refine XS.ifNo X0.here hx rfl (hb hby at_129) rfl ((if0 _ _).trans (feq hc324).1) ?_
                show SS p e below m s₁ 132 #[iv p1, iv p2, iv p3, iv p4, iv zs, iv fr, iv to, .val (.long dd), .second, .val (.long la), .second, .unset, .unset] [] _
                refine XS.lload X0.here hx rfl (hb hby at_132) rfl ?_
                show SS p e below m s₁ 134 #[iv p1, iv p2, iv p3, iv p4, iv zs, iv fr, iv to, .val (.long dd), .second, .val (.long la), .second, .unset, .unset] [(.long dd)] _
                refine XS.lload X0.here hx rfl (hb hby at_134) rfl ?_
                show SS p e below m s₁ 136 #[iv p1, iv p2, iv p3, iv p4, iv zs, iv fr, iv to, .val (.long dd), .second, .val (.long la), .second, .unset, .unset] [(.long la), (.long dd)] _
                refine XS.lneg X0.here hx rfl (hb hby at_136) rfl ?_
                show SS p e below m s₁ 137 #[iv p1, iv p2, iv p3, iv p4, iv zs, iv fr, iv to, .val (.long dd), .second, .val (.long la), .second, .unset, .unset] [(.long (-la)), (.long dd)] _
                refine XS.lcmp X0.here hx rfl (hb hby at_137) rfl ?_
                show SS p e below m s₁ 138 #[iv p1, iv p2, iv p3, iv p4, iv zs, iv fr, iv to, .val (.long dd), .second, .val (.long la), .second, .unset, .unset] [(.int (lcmpW dd (-la)))] _
                exact kk)
              by_cases hc338 : (lcmpW dd (-la)) = (0 : Int32)
              · have pre339 : ∀ t, SS p e below m s₁ 148 #[iv p1, iv p2, iv p3, iv p4, iv zs, iv fr, iv to, .val (.long dd), .second, .val (.long la), .second, iv (1 : Int32), .unset] [] t → B t := fun t kk => pre337 t (by
                  refine XS.ifNo X0.here hx rfl (hb hby at_138) rfl ((if0 _ _).trans (teq hc338).2) ?_
                  show SS p e below m s₁ 141 #[iv p1, iv p2, iv p3, iv p4, iv zs, iv fr, iv to, .val (.long dd), .second, .val (.long la), .second, .unset, .unset] [] _
                  refine XS.iconst X0.here hx rfl (hb hby at_141) ?_
                  show SS p e below m s₁ 142 #[iv p1, iv p2, iv p3, iv p4, iv zs, iv fr, iv to, .val (.long dd), .second, .val (.long la), .second, .unset, .unset] [(.int (1 : Int32))] _
                  refine XS.goto X0.here hx rfl (pc0 := 142) (pc' := 146) rfl (hb hby at_142) (by decide) (by decide) ?_
                  show SS p e below m s₁ 146 #[iv p1, iv p2, iv p3, iv p4, iv zs, iv fr, iv to, .val (.long dd), .second, .val (.long la), .second, .unset, .unset] [(.int (1 : Int32))] _
                  refine XS.istore X0.here hx rfl (hb hby at_146) rfl (l' := #[iv p1, iv p2, iv p3, iv p4, iv zs, iv fr, iv to, .val (.long dd), .second, .val (.long la), .second, iv (1 : Int32), .unset]) rfl ?_
                  show SS p e below m s₁ 148 #[iv p1, iv p2, iv p3, iv p4, iv zs, iv fr, iv to, .val (.long dd), .second, .val (.long la), .second, iv (1 : Int32), .unset] [] _
                  exact kk)
                obtain ⟨T340, h340, X340, e340, E340, A340, D340, -, st340⟩ := newO X0 hx hZ hown (hw _ (List.mem_of_getElem? (i := 4) rfl)) (hw _ (List.mem_of_getElem? (i := 5) rfl)) (hw _ (List.mem_of_getElem? (i := 6) rfl)) e0 (g := (mkF m 148 #[iv p1, iv p2, iv p3, iv p4, iv zs, iv fr, iv to, .val (.long dd), .second, .val (.long la), .second, iv (1 : Int32), .unset] [])) rfl (hb hby at_148) (by decide) (by decide)
                obtain ⟨b340, g340⟩ : ∃ z, z = h0.size := ⟨_, rfl⟩
                rw [← g340] at A340 D340 st340
                have g_b340 : n0 ≤ b340 := Nat.le_trans Z0 (Nat.le_of_eq g340.symm)
                have Z340 : n0 ≤ h340.size := Nat.le_trans Z0 E340.1
                have pre341 : ∀ t, SS p e below m T340 152 #[iv p1, iv p2, iv p3, iv p4, iv zs, iv fr, iv to, .val (.long dd), .second, .val (.long la), .second, iv (1 : Int32), .unset] [(.ref b340), (.ref b340)] t → B t := fun t kk => pre339 t (by
                  refine st340 _ ?_
                  show SS p e below m T340 151 #[iv p1, iv p2, iv p3, iv p4, iv zs, iv fr, iv to, .val (.long dd), .second, .val (.long la), .second, iv (1 : Int32), .unset] [(.ref b340)] _
                  refine XS.dup X340.here hx rfl (hb hby at_151) rfl rfl ?_
                  show SS p e below m T340 152 #[iv p1, iv p2, iv p3, iv p4, iv zs, iv fr, iv to, .val (.long dd), .second, .val (.long la), .second, iv (1 : Int32), .unset] [(.ref b340), (.ref b340)] _
                  exact kk)
                obtain ⟨_, _, ⟨T342, L342, k342, n342⟩, -, X342, ⟨Lc342, hQ342, l342, y342, z342⟩, st342⟩ := X340.specialBack hx (y := (⟨"com/example/hermit_crab/hermitcrab/sim/Topology$Ring", "<init>", "()V"⟩ : MethodName)) rfl hown (mvT hZ (hw _ (List.mem_of_getElem? (i := 7) rfl))) (mvT hZ (hw _ (List.mem_of_getElem? (i := 8) rfl))) (mvT hZ (hw _ (List.mem_of_getElem? (i := 9) rfl))) (by decide) (backOf (W := 1) (rm1 l Z a0 hw [] b340 h340 n0 Z340 ) hZ (hw _ (List.mem_of_getElem? (i := 9) rfl)) (hw _ (List.mem_of_getElem? (i := 6) rfl)) (by decide) (by decide)) (g := (mkF m 152 #[iv p1, iv p2, iv p3, iv p4, iv zs, iv fr, iv to, .val (.long dd), .second, .val (.long la), .second, iv (1 : Int32), .unset] [(.ref b340), (.ref b340)])) rfl (by rw [hml]; rfl) (Steps.refl _) (a := b340) (argsL := []) (rest := [(.ref b340)]) (lenOf pd_0 rfl) rfl (by show 2 * 0 + _ ≤ _; exact Nat.le_of_eq rfl) (hb hby at_152) (fun _ _ => ⟨rfl, e340, (by decide : 1 + 0 ≤ _), (by decide : 0 + 0 ≤ _)⟩)
                dsimp only [Pt.U, Pt.locs, Pt.cells, Pt.slots] at X342 l342 y342 z342 st342 hQ342
                subst l342 y342 z342
                obtain ⟨rfl, N342q, e342⟩ := hQ342
                have N342 := Fr.app N0 N342q
                have pre343 : ∀ t, SS p e below m T342 165 #[iv p1, iv p2, iv p3, iv p4, iv zs, iv fr, iv to, .val (.long dd), .second, .val (.long la), .second, iv (1 : Int32), rv b340] [(.int zs), (.int to), (.int fr), (.ref b340)] t → B t := fun t kk => pre341 t (by
                  refine st342.trans ?_
                  show SS p e below m T342 155 #[iv p1, iv p2, iv p3, iv p4, iv zs, iv fr, iv to, .val (.long dd), .second, .val (.long la), .second, iv (1 : Int32), .unset] [(.ref b340)] _
                  refine XS.astore X342.here hx rfl (hb hby at_155) rfl rfl (l' := #[iv p1, iv p2, iv p3, iv p4, iv zs, iv fr, iv to, .val (.long dd), .second, .val (.long la), .second, iv (1 : Int32), rv b340]) rfl ?_
                  show SS p e below m T342 157 #[iv p1, iv p2, iv p3, iv p4, iv zs, iv fr, iv to, .val (.long dd), .second, .val (.long la), .second, iv (1 : Int32), rv b340] [] _
                  refine XS.aload X342.here hx rfl (hb hby at_157) rfl rfl ?_
                  show SS p e below m T342 159 #[iv p1, iv p2, iv p3, iv p4, iv zs, iv fr, iv to, .val (.long dd), .second, .val (.long la), .second, iv (1 : Int32), rv b340] [(.ref b340)] _
                  refine XS.iload X342.here hx rfl (hb hby at_159) rfl ?_
                  show SS p e below m T342 161 #[iv p1, iv p2, iv p3, iv p4, iv zs, iv fr, iv to, .val (.long dd), .second, .val (.long la), .second, iv (1 : Int32), rv b340] [(.int fr), (.ref b340)] _
                  refine XS.iload X342.here hx rfl (hb hby at_161) rfl ?_
                  show SS p e below m T342 163 #[iv p1, iv p2, iv p3, iv p4, iv zs, iv fr, iv to, .val (.long dd), .second, .val (.long la), .second, iv (1 : Int32), rv b340] [(.int to), (.int fr), (.ref b340)] _
                  refine XS.iload X342.here hx rfl (hb hby at_163) rfl ?_
                  show SS p e below m T342 165 #[iv p1, iv p2, iv p3, iv p4, iv zs, iv fr, iv to, .val (.long dd), .second, .val (.long la), .second, iv (1 : Int32), rv b340] [(.int zs), (.int to), (.int fr), (.ref b340)] _
                  exact kk)
                obtain ⟨cq344, kq344, q344a, q344b, q344c⟩ := isOf hZ e342 A340
                obtain ⟨_, _, ⟨T344, L344, k344, n344⟩, -, X344, ⟨Lc344, hQ344, l344, y344, z344⟩, st344⟩ := X342.virtualBack hx (y := (⟨"com/example/hermit_crab/hermitcrab/sim/Topology$Ring", "links", "(III)Z"⟩ : MethodName)) (z := (⟨"com/example/hermit_crab/hermitcrab/sim/Topology$Ring", "links", "(III)Z"⟩ : MethodName)) hown (mvT hZ (hw _ (List.mem_of_getElem? (i := 18) rfl))) (mvT hZ (hw _ (List.mem_of_getElem? (i := 19) rfl))) (notFace_of_selects (args := #[]) (mvT hZ (hw _ (List.mem_of_getElem? (i := 21) rfl)))) (mvT hZ (hw _ (List.mem_of_getElem? (i := 21) rfl))) (mvT hZ (hw _ (List.mem_of_getElem? (i := 20) rfl))) (by decide) (backOf (W := 0) (rm4 l Z a0 hw [] b340 fr to zs h340 n0 Z340 hnz0) hZ (hw _ (List.mem_of_getElem? (i := 22) rfl)) (hw _ (List.mem_of_getElem? (i := 6) rfl)) (by decide) (by decide)) q344a q344c (g := (mkF m 165 #[iv p1, iv p2, iv p3, iv p4, iv zs, iv fr, iv to, .val (.long dd), .second, .val (.long la), .second, iv (1 : Int32), rv b340] [(.int zs), (.int to), (.int fr), (.ref b340)])) rfl (by rw [hml]; rfl) (Steps.refl _) (argsL := [(.int fr), (.int to), (.int zs)]) (rest := []) (lenOf pd_1 rfl) rfl (by show 2 * 0 + _ ≤ _; exact Nat.le_of_eq rfl) (hb hby at_165) (fun _ _ => ⟨rfl, e342, (by decide : 1 + 0 ≤ _), (by decide : 0 + 0 ≤ _)⟩)
                dsimp only [Pt.U, Pt.locs, Pt.cells, Pt.slots] at X344 l344 y344 z344 st344 hQ344
                subst l344 y344 z344
                obtain ⟨rfl, N344q, e344⟩ := hQ344
                have N344 := Fr.app N342 N344q
                have pre349 : ∀ t, SS p e below m T344 170 #[iv p1, iv p2, iv p3, iv p4, iv zs, iv fr, iv to, .val (.long dd), .second, .val (.long la), .second, iv (1 : Int32), rv b340] [(.int (1 : Int32)), (.int (f4 fr to zs))] t → B t := fun t kk => pre343 t (by
                  refine st344.trans ?_
                  show SS p e below m T344 168 #[iv p1, iv p2, iv p3, iv p4, iv zs, iv fr, iv to, .val (.long dd), .second, .val (.long la), .second, iv (1 : Int32), rv b340] [(.int (f4 fr to zs))] _
                  refine XS.iload X344.here hx rfl (hb hby at_168) rfl ?_
                  show SS p e below m T344 170 #[iv p1, iv p2, iv p3, iv p4, iv zs, iv fr, iv to, .val (.long dd), .second, .val (.long la), .second, iv (1 : Int32), rv b340] [(.int (1 : Int32)), (.int (f4 fr to zs))] _
                  exact kk)
                have hq350 : (f4 fr to zs) = (1 : Int32) := by
                  rw [own_links _ _ _ hz hfr hto]
                  have u345 := mt (lw_eq dd (1 : Int64)).mpr hc299
                  rw [← Int64.toInt_inj] at u345
                  have u346 := mt (lw_eq dd (-1 : Int64)).mpr hc311
                  rw [← Int64.toInt_inj] at u346
                  have u347 := mt (lw_eq dd la).mpr hc324
                  rw [← Int64.toInt_inj] at u347
                  have u348 := (lw_eq dd (-la)).mp hc338
                  rw [← Int64.toInt_inj] at u348
                  have J1 : (1 : Int64).toInt = 1 := by decide
                  have Jm : (-1 : Int64).toInt = -1 := by decide
                  rw [if_pos (by omega)]
                have pre351 : ∀ t, SS p e below m T344 178 #[iv p1, iv p2, iv p3, iv p4, iv zs, iv fr, iv to, .val (.long dd), .second, .val (.long la), .second, iv (1 : Int32), rv b340] [(.int (1 : Int32))] t → B t := fun t kk => pre349 t (by
                  refine XS.icmpNo X344.here hx rfl (hb hby at_170) rfl (teq hq350).2 ?_
                  show SS p e below m T344 173 #[iv p1, iv p2, iv p3, iv p4, iv zs, iv fr, iv to, .val (.long dd), .second, .val (.long la), .second, iv (1 : Int32), rv b340] [] _
                  refine XS.iconst X344.here hx rfl (hb hby at_173) ?_
                  show SS p e below m T344 174 #[iv p1, iv p2, iv p3, iv p4, iv zs, iv fr, iv to, .val (.long dd), .second, .val (.long la), .second, iv (1 : Int32), rv b340] [(.int (1 : Int32))] _
                  refine XS.goto X344.here hx rfl (pc0 := 174) (pc' := 178) rfl (hb hby at_174) (by decide) (by decide) ?_
                  show SS p e below m T344 178 #[iv p1, iv p2, iv p3, iv p4, iv zs, iv fr, iv to, .val (.long dd), .second, .val (.long la), .second, iv (1 : Int32), rv b340] [(.int (1 : Int32))] _
                  exact kk)
                obtain ⟨fs, hr, hrun, hended, hW, hsame⟩ := X344.leave (v := some (.int (1 : Int32))) (fun h => by rw [Bd.returns] at h; cases h)
                refine ⟨_, _, hB _ (pre351 _ ?_), hrun, hended, _, _, rfl, ?_, ⟨_, rfl⟩, hW, hsame.mono (by decide) (by decide)⟩
                · exact retN X344 hx (t := .boolean) Bd.returns (by simp) (hb hby at_178) hr
                · exact ⟨rfl, N344⟩
              · have pre352 : ∀ t, SS p e below m s₁ 148 #[iv p1, iv p2, iv p3, iv p4, iv zs, iv fr, iv to, .val (.long dd), .second, .val (.long la), .second, iv (0 : Int32), .unset] [] t → B t := fun t kk => pre337 t (by
                  refine XS.ifYes X0.here hx rfl (pc0 := 138) (pc' := 145) rfl (hb hby at_138) rfl ((if0 _ _).trans (feq hc338).2) (by decide) (by decide) ?_
                  show SS p e below m s₁ 145 #[iv p1, iv p2, iv p3, iv p4, iv zs, iv fr, iv to, .val (.long dd), .second, .val (.long la), .second, .unset, .unset] [] _
                  refine XS.iconst X0.here hx rfl (hb hby at_145) ?_
                  show SS p e below m s₁ 146 #[iv p1, iv p2, iv p3, iv p4, iv zs, iv fr, iv to, .val (.long dd), .second, .val (.long la), .second, .unset, .unset] [(.int (0 : Int32))] _
                  refine XS.istore X0.here hx rfl (hb hby at_146) rfl (l' := #[iv p1, iv p2, iv p3, iv p4, iv zs, iv fr, iv to, .val (.long dd), .second, .val (.long la), .second, iv (0 : Int32), .unset]) rfl ?_
                  show SS p e below m s₁ 148 #[iv p1, iv p2, iv p3, iv p4, iv zs, iv fr, iv to, .val (.long dd), .second, .val (.long la), .second, iv (0 : Int32), .unset] [] _
                  exact kk)
                obtain ⟨T353, h353, X353, e353, E353, A353, D353, -, st353⟩ := newO X0 hx hZ hown (hw _ (List.mem_of_getElem? (i := 4) rfl)) (hw _ (List.mem_of_getElem? (i := 5) rfl)) (hw _ (List.mem_of_getElem? (i := 6) rfl)) e0 (g := (mkF m 148 #[iv p1, iv p2, iv p3, iv p4, iv zs, iv fr, iv to, .val (.long dd), .second, .val (.long la), .second, iv (0 : Int32), .unset] [])) rfl (hb hby at_148) (by decide) (by decide)
                obtain ⟨b353, g353⟩ : ∃ z, z = h0.size := ⟨_, rfl⟩
                rw [← g353] at A353 D353 st353
                have g_b353 : n0 ≤ b353 := Nat.le_trans Z0 (Nat.le_of_eq g353.symm)
                have Z353 : n0 ≤ h353.size := Nat.le_trans Z0 E353.1
                have pre354 : ∀ t, SS p e below m T353 152 #[iv p1, iv p2, iv p3, iv p4, iv zs, iv fr, iv to, .val (.long dd), .second, .val (.long la), .second, iv (0 : Int32), .unset] [(.ref b353), (.ref b353)] t → B t := fun t kk => pre352 t (by
                  refine st353 _ ?_
                  show SS p e below m T353 151 #[iv p1, iv p2, iv p3, iv p4, iv zs, iv fr, iv to, .val (.long dd), .second, .val (.long la), .second, iv (0 : Int32), .unset] [(.ref b353)] _
                  refine XS.dup X353.here hx rfl (hb hby at_151) rfl rfl ?_
                  show SS p e below m T353 152 #[iv p1, iv p2, iv p3, iv p4, iv zs, iv fr, iv to, .val (.long dd), .second, .val (.long la), .second, iv (0 : Int32), .unset] [(.ref b353), (.ref b353)] _
                  exact kk)
                obtain ⟨_, _, ⟨T355, L355, k355, n355⟩, -, X355, ⟨Lc355, hQ355, l355, y355, z355⟩, st355⟩ := X353.specialBack hx (y := (⟨"com/example/hermit_crab/hermitcrab/sim/Topology$Ring", "<init>", "()V"⟩ : MethodName)) rfl hown (mvT hZ (hw _ (List.mem_of_getElem? (i := 7) rfl))) (mvT hZ (hw _ (List.mem_of_getElem? (i := 8) rfl))) (mvT hZ (hw _ (List.mem_of_getElem? (i := 9) rfl))) (by decide) (backOf (W := 1) (rm1 l Z a0 hw [] b353 h353 n0 Z353 ) hZ (hw _ (List.mem_of_getElem? (i := 9) rfl)) (hw _ (List.mem_of_getElem? (i := 6) rfl)) (by decide) (by decide)) (g := (mkF m 152 #[iv p1, iv p2, iv p3, iv p4, iv zs, iv fr, iv to, .val (.long dd), .second, .val (.long la), .second, iv (0 : Int32), .unset] [(.ref b353), (.ref b353)])) rfl (by rw [hml]; rfl) (Steps.refl _) (a := b353) (argsL := []) (rest := [(.ref b353)]) (lenOf pd_0 rfl) rfl (by show 2 * 0 + _ ≤ _; exact Nat.le_of_eq rfl) (hb hby at_152) (fun _ _ => ⟨rfl, e353, (by decide : 1 + 0 ≤ _), (by decide : 0 + 0 ≤ _)⟩)
                dsimp only [Pt.U, Pt.locs, Pt.cells, Pt.slots] at X355 l355 y355 z355 st355 hQ355
                subst l355 y355 z355
                obtain ⟨rfl, N355q, e355⟩ := hQ355
                have N355 := Fr.app N0 N355q
                have pre356 : ∀ t, SS p e below m T355 165 #[iv p1, iv p2, iv p3, iv p4, iv zs, iv fr, iv to, .val (.long dd), .second, .val (.long la), .second, iv (0 : Int32), rv b353] [(.int zs), (.int to), (.int fr), (.ref b353)] t → B t := fun t kk => pre354 t (by
                  refine st355.trans ?_
                  show SS p e below m T355 155 #[iv p1, iv p2, iv p3, iv p4, iv zs, iv fr, iv to, .val (.long dd), .second, .val (.long la), .second, iv (0 : Int32), .unset] [(.ref b353)] _
                  refine XS.astore X355.here hx rfl (hb hby at_155) rfl rfl (l' := #[iv p1, iv p2, iv p3, iv p4, iv zs, iv fr, iv to, .val (.long dd), .second, .val (.long la), .second, iv (0 : Int32), rv b353]) rfl ?_
                  show SS p e below m T355 157 #[iv p1, iv p2, iv p3, iv p4, iv zs, iv fr, iv to, .val (.long dd), .second, .val (.long la), .second, iv (0 : Int32), rv b353] [] _
                  refine XS.aload X355.here hx rfl (hb hby at_157) rfl rfl ?_
                  show SS p e below m T355 159 #[iv p1, iv p2, iv p3, iv p4, iv zs, iv fr, iv to, .val (.long dd), .second, .val (.long la), .second, iv (0 : Int32), rv b353] [(.ref b353)] _
                  refine XS.iload X355.here hx rfl (hb hby at_159) rfl ?_
                  show SS p e below m T355 161 #[iv p1, iv p2, iv p3, iv p4, iv zs, iv fr, iv to, .val (.long dd), .second, .val (.long la), .second, iv (0 : Int32), rv b353] [(.int fr), (.ref b353)] _
                  refine XS.iload X355.here hx rfl (hb hby at_161) rfl ?_
                  show SS p e below m T355 163 #[iv p1, iv p2, iv p3, iv p4, iv zs, iv fr, iv to, .val (.long dd), .second, .val (.long la), .second, iv (0 : Int32), rv b353] [(.int to), (.int fr), (.ref b353)] _
                  refine XS.iload X355.here hx rfl (hb hby at_163) rfl ?_
                  show SS p e below m T355 165 #[iv p1, iv p2, iv p3, iv p4, iv zs, iv fr, iv to, .val (.long dd), .second, .val (.long la), .second, iv (0 : Int32), rv b353] [(.int zs), (.int to), (.int fr), (.ref b353)] _
                  exact kk)
                obtain ⟨cq357, kq357, q357a, q357b, q357c⟩ := isOf hZ e355 A353
                obtain ⟨_, _, ⟨T357, L357, k357, n357⟩, -, X357, ⟨Lc357, hQ357, l357, y357, z357⟩, st357⟩ := X355.virtualBack hx (y := (⟨"com/example/hermit_crab/hermitcrab/sim/Topology$Ring", "links", "(III)Z"⟩ : MethodName)) (z := (⟨"com/example/hermit_crab/hermitcrab/sim/Topology$Ring", "links", "(III)Z"⟩ : MethodName)) hown (mvT hZ (hw _ (List.mem_of_getElem? (i := 18) rfl))) (mvT hZ (hw _ (List.mem_of_getElem? (i := 19) rfl))) (notFace_of_selects (args := #[]) (mvT hZ (hw _ (List.mem_of_getElem? (i := 21) rfl)))) (mvT hZ (hw _ (List.mem_of_getElem? (i := 21) rfl))) (mvT hZ (hw _ (List.mem_of_getElem? (i := 20) rfl))) (by decide) (backOf (W := 0) (rm4 l Z a0 hw [] b353 fr to zs h353 n0 Z353 hnz0) hZ (hw _ (List.mem_of_getElem? (i := 22) rfl)) (hw _ (List.mem_of_getElem? (i := 6) rfl)) (by decide) (by decide)) q357a q357c (g := (mkF m 165 #[iv p1, iv p2, iv p3, iv p4, iv zs, iv fr, iv to, .val (.long dd), .second, .val (.long la), .second, iv (0 : Int32), rv b353] [(.int zs), (.int to), (.int fr), (.ref b353)])) rfl (by rw [hml]; rfl) (Steps.refl _) (argsL := [(.int fr), (.int to), (.int zs)]) (rest := []) (lenOf pd_1 rfl) rfl (by show 2 * 0 + _ ≤ _; exact Nat.le_of_eq rfl) (hb hby at_165) (fun _ _ => ⟨rfl, e355, (by decide : 1 + 0 ≤ _), (by decide : 0 + 0 ≤ _)⟩)
                dsimp only [Pt.U, Pt.locs, Pt.cells, Pt.slots] at X357 l357 y357 z357 st357 hQ357
                subst l357 y357 z357
                obtain ⟨rfl, N357q, e357⟩ := hQ357
                have N357 := Fr.app N355 N357q
                have pre362 : ∀ t, SS p e below m T357 170 #[iv p1, iv p2, iv p3, iv p4, iv zs, iv fr, iv to, .val (.long dd), .second, .val (.long la), .second, iv (0 : Int32), rv b353] [(.int (0 : Int32)), (.int (f4 fr to zs))] t → B t := fun t kk => pre356 t (by
                  refine st357.trans ?_
                  show SS p e below m T357 168 #[iv p1, iv p2, iv p3, iv p4, iv zs, iv fr, iv to, .val (.long dd), .second, .val (.long la), .second, iv (0 : Int32), rv b353] [(.int (f4 fr to zs))] _
                  refine XS.iload X357.here hx rfl (hb hby at_168) rfl ?_
                  show SS p e below m T357 170 #[iv p1, iv p2, iv p3, iv p4, iv zs, iv fr, iv to, .val (.long dd), .second, .val (.long la), .second, iv (0 : Int32), rv b353] [(.int (0 : Int32)), (.int (f4 fr to zs))] _
                  exact kk)
                have hq363 : (f4 fr to zs) = (0 : Int32) := by
                  rw [own_links _ _ _ hz hfr hto]
                  have u358 := mt (lw_eq dd (1 : Int64)).mpr hc299
                  rw [← Int64.toInt_inj] at u358
                  have u359 := mt (lw_eq dd (-1 : Int64)).mpr hc311
                  rw [← Int64.toInt_inj] at u359
                  have u360 := mt (lw_eq dd la).mpr hc324
                  rw [← Int64.toInt_inj] at u360
                  have u361 := mt (lw_eq dd (-la)).mpr hc338
                  rw [← Int64.toInt_inj] at u361
                  have J1 : (1 : Int64).toInt = 1 := by decide
                  have Jm : (-1 : Int64).toInt = -1 := by decide
                  rw [if_neg (by omega)]
                have pre364 : ∀ t, SS p e below m T357 178 #[iv p1, iv p2, iv p3, iv p4, iv zs, iv fr, iv to, .val (.long dd), .second, .val (.long la), .second, iv (0 : Int32), rv b353] [(.int (1 : Int32))] t → B t := fun t kk => pre362 t (by
                  refine XS.icmpNo X357.here hx rfl (hb hby at_170) rfl (teq hq363).2 ?_
                  show SS p e below m T357 173 #[iv p1, iv p2, iv p3, iv p4, iv zs, iv fr, iv to, .val (.long dd), .second, .val (.long la), .second, iv (0 : Int32), rv b353] [] _
                  refine XS.iconst X357.here hx rfl (hb hby at_173) ?_
                  show SS p e below m T357 174 #[iv p1, iv p2, iv p3, iv p4, iv zs, iv fr, iv to, .val (.long dd), .second, .val (.long la), .second, iv (0 : Int32), rv b353] [(.int (1 : Int32))] _
                  refine XS.goto X357.here hx rfl (pc0 := 174) (pc' := 178) rfl (hb hby at_174) (by decide) (by decide) ?_
                  show SS p e below m T357 178 #[iv p1, iv p2, iv p3, iv p4, iv zs, iv fr, iv to, .val (.long dd), .second, .val (.long la), .second, iv (0 : Int32), rv b353] [(.int (1 : Int32))] _
                  exact kk)
                obtain ⟨fs, hr, hrun, hended, hW, hsame⟩ := X357.leave (v := some (.int (1 : Int32))) (fun h => by rw [Bd.returns] at h; cases h)
                refine ⟨_, _, hB _ (pre364 _ ?_), hrun, hended, _, _, rfl, ?_, ⟨_, rfl⟩, hW, hsame.mono (by decide) (by decide)⟩
                · exact retN X357 hx (t := .boolean) Bd.returns (by simp) (hb hby at_178) hr
                · exact ⟨rfl, N357⟩
set_option maxRecDepth 65536 in
set_option maxHeartbeats 40000000 in
theorem comes_1 {Post : Tables → Env → Array Value → State → Outcome → State → Prop} (hpost : ∀ tb e args s v u, (limb_1_1.after args s (.returned v) u = true ∧ limb_1_2.after args s (.returned v) u = true ∧ True) → FrameEnd s (.returned v) u (Jvm.fieldLocs frame_1_writes args s ++ Jvm.arrayLocs frame_1_arrays args s ++ Jvm.staticLocs frame_1_statics s) 16 64 → Post tb e args s (.returned v) u) :
    ArmFor flags0 classFile x code maxLocals ret World_1 tables_1 room_1 Calls_1 rest_1 Pre_1 Post := by
  intro l hfl _ _ p e ha hc hk s m args below hf hA hF happ hP
  obtain ⟨hcalls, hrest, hpre⟩ := hP
  obtain ⟨-, -, -, hnamed, -, -, -, hat⟩ := (Spec.applies_iff hf).mp happ
  obtain ⟨hg, hn⟩ := and_e (Cond.before_iff.mp (show (Jvm.Cond.and given_1 narrow_1).before args s = true from hpre))
  obtain ⟨gg1, gg2⟩ := and_e hg
  obtain ⟨gg3, gg4⟩ := and_e gg2
  obtain ⟨gg5, gg6⟩ := and_e gg4
  obtain ⟨gg7, gg8⟩ := and_e gg6
  obtain ⟨w0, w1, w2, w3, rfl⟩ : ∃ w0 w1 w2 w3 : Value, args = #[w0, w1, w2, w3] := by
    have hs : args.size = 4 := by simpa [Cond.value, given_1] using gg1
    obtain ⟨L⟩ := args
    match L, hs with
    | [w0, w1, w2, w3], _ => exact ⟨w0, w1, w2, w3, rfl⟩
  have hw := fun d (hd : d ∈ tables_1) => atoms_spec (ws := Jvm.Cond.code x code maxLocals ret :: tables_1) hat d (List.mem_cons_of_mem _ hd)
  obtain ⟨i0, ei0⟩ := is_v gg3
  obtain rfl : w0 = (.int i0) := Option.some.inj ei0
  obtain ⟨i1, ei1⟩ := is_v gg5
  obtain rfl : w1 = (.int i1) := Option.some.inj ei1
  obtain ⟨i2, ei2⟩ := is_v gg7
  obtain rfl : w2 = (.int i2) := Option.some.inj ei2
  obtain ⟨i3, ei3⟩ := is_v gg8
  obtain rfl : w3 = (.int i3) := Option.some.inj ei3
  obtain ⟨n, o, h1, h2, h3, _, L, rfl, ⟨rfl, N⟩, hq⟩ := rm0 l s _ hw tables_1 i0 i1 i2 i3 s.heap s.heap.size (Nat.le_refl _)  p e ha hc hk s m _ below hf ((Spec.applies_iff_loose hf).mp happ).1 ⟨rfl, State.Warmed39.refl s, rfl⟩ trivial
  refine ⟨n, _, h1, h2, h3, hpost _ _ _ _ _ _ ⟨Cond.after_iff.mpr rfl, Cond.after_iff.mpr (eq_i res_at (Term.int_eval (1)) rfl), trivial⟩ ⟨hq.1, hq.2.1, (hq.2.2.sift fun y hy => Or.inr (N y hy)).mono (by decide) (by decide)⟩⟩
theorem main_1_1 : Claimed_1_1 := comes_1 fun _ _ _ _ _ _ h hF => ⟨h.1, hF⟩
theorem main_1_2 : Claimed_1_2 := comes_1 fun _ _ _ _ _ _ h hF => ⟨h.2.1, hF⟩
end Jvm.Pilot.@@N@@
namespace Jvm.Pilot.@@N@@
open Jvm Jvm.ClassFile Sem Op Lib Jvm.Free Jvm.Stand Jvm.Pilot.@@N@@.Jvm.D
/-! MADE BY PROGRAM (witnessworld.py) out of the Statement's table words and the real class files: 11 classes; the members and pool entries that the words name. The judged class is class 1, her method 1. -/
namespace start1
open Jvm.ClassFile
def u (s : String) : CpInfo := .utf8 (stringToUtf16 s)
/-- a pool by its gaps: so many unusable entries, then the entry; so many at the end -/
def gap : Nat → List CpInfo → List CpInfo
  | 0, r => r
  | n + 1, r => .unusable :: gap n r
def poolList (es : List (Nat × CpInfo)) (last : Nat) : List CpInfo := es.foldr (fun e r => gap e.1 (e.2 :: r)) (gap last [])
def pool (es : List (Nat × CpInfo)) (last : Nat) : Array CpInfo := ⟨poolList es last⟩
def fileOf (pool : Array CpInfo) (this : Nat) (attrs : Array Attribute := #[]) (ms : Array MethodInfo := #[]) (fl : Nat := 33) (sup : Nat := 0) (ifs : Array Nat := #[]) (fds : Array FieldInfo := #[]) : ClassFile where
  minorVersion := 0
  majorVersion := 65
  constantPool := pool
  accessFlags := fl
  thisClass := this
  superClass := sup
  interfaces := ifs
  fields := fds
  methods := ms
  attributes := attrs
def plain (name : String) (sup : Option ClassId) : Class where
  name := name
  kind := .ordinary
  loader := none
  accessFlags := 33
  super := sup
  interfaces := #[]
  cf := none
  fields := #[]
  methods := #[]
  instanceTypes := #[]
  staticTypes := #[]
  resolved := #[]
  callSites := []
  init := .initialized
  statics := none
  mirror := none

def pool0 : Array CpInfo := pool [(5, u "<init>"), (0, u "()V"), (1, .class_ 10), (1, u "java/lang/Object")] 113

def k0c0 : Code := { maxStack := 0, maxLocals := 1, code := object_method_1_code, exceptionTable := #[], attributes := #[] }
def k0m0 : Method := { name := "<init>", desc := "()V", sig := { parameters := [], returnType := none }, accessFlags := 1, code := some k0c0 }
/-- java/lang/Object -/
def k0 : Class := { plain "java/lang/Object" none with
  accessFlags := 33
  interfaces := #[]
  cf := some (fileOf pool0 8 #[] #[{ accessFlags := 1, nameIndex := 5, descriptorIndex := 6, attributes := #[] }] 33 0 #[] #[])
  fields := #[]
  methods := #[k0m0]
  instanceTypes := #[]
  staticTypes := #[]
  resolved := Array.replicate 124 none
  statics := none }

def pool1 : Array CpInfo := pool [(2, .class_ 4), (0, .nameAndType 5 6), (0, u "java/lang/Object"), (0, u "<init>"), (0, u "()V"), (0, .integer 2147483647), (0, .integer 2147483646), (0, .long 2), (1, .long 18446744073709551615), (1, .class_ 14), (0, u "com/example/hermit_crab/hermitcrab/sim/Topology$Ring"), (0, .methodref 13 3), (0, .methodref 13 17), (0, .nameAndType 18 19), (0, u "links"), (0, u "(III)Z"), (0, .class_ 21), (0, u "com/example/hermit_crab/hermitcrab/sim/RingLinksPinLaw"), (2, u "law"), (0, u "(IIII)Z")] 7

def k1m0 : Method := { name := "<init>", desc := "()V", sig := { parameters := [], returnType := none }, accessFlags := 2, code := none }
def k1c1 : Code := { maxStack := 4, maxLocals := 13, code := code, exceptionTable := #[], attributes := #[] }
def k1m1 : Method := { name := "law", desc := "(IIII)Z", sig := { parameters := [.int, .int, .int, .int], returnType := some .boolean }, accessFlags := 9, code := some k1c1 }
/-- com/example/hermit_crab/hermitcrab/sim/RingLinksPinLaw -/
def k1 : Class := { plain "com/example/hermit_crab/hermitcrab/sim/RingLinksPinLaw" (some 0) with
  accessFlags := 49
  interfaces := #[]
  cf := some (fileOf pool1 20 #[] #[{ accessFlags := 2, nameIndex := 5, descriptorIndex := 6, attributes := #[] }, { accessFlags := 9, nameIndex := 24, descriptorIndex := 25, attributes := #[] }] 49 2 #[] #[])
  fields := #[]
  methods := #[k1m0, k1m1]
  instanceTypes := #[]
  staticTypes := #[]
  resolved := Array.replicate 33 none
  statics := none }

def pool2 : Array CpInfo := pool [(1, .methodref 2 3), (0, .class_ 4), (0, .nameAndType 5 6), (0, u "java/lang/Object"), (0, u "<init>"), (0, u "()V"), (0, .class_ 8), (0, u "java/lang/Record")] 13

def k2c0 : Code := { maxStack := 1, maxLocals := 1, code := jdk_30_method_1_code, exceptionTable := #[], attributes := #[] }
def k2m0 : Method := { name := "<init>", desc := "()V", sig := { parameters := [], returnType := none }, accessFlags := 4, code := some k2c0 }
/-- java/lang/Record -/
def k2 : Class := { plain "java/lang/Record" (some 0) with
  accessFlags := 1057
  interfaces := #[]
  cf := some (fileOf pool2 7 #[] #[{ accessFlags := 4, nameIndex := 5, descriptorIndex := 6, attributes := #[] }] 1057 2 #[] #[])
  fields := #[]
  methods := #[k2m0]
  instanceTypes := #[]
  staticTypes := #[]
  resolved := Array.replicate 22 none
  statics := none }

def pool3 : Array CpInfo := pool [(1, .class_ 2), (0, u "com/example/hermit_crab/hermitcrab/sim/Topology"), (0, .class_ 4), (0, u "java/lang/Object"), (9, .class_ 15), (0, u "com/example/hermit_crab/hermitcrab/sim/Topology$Ring"), (0, .class_ 17), (0, u "com/example/hermit_crab/hermitcrab/sim/Topology$Complete")] 6

/-- com/example/hermit_crab/hermitcrab/sim/Topology -/
def k3 : Class := { plain "com/example/hermit_crab/hermitcrab/sim/Topology" (some 0) with
  accessFlags := 1537
  interfaces := #[]
  cf := some (fileOf pool3 1 #[.nestMembers #[14, 16]] #[] 1537 3 #[] #[])
  fields := #[]
  methods := #[]
  instanceTypes := #[]
  staticTypes := #[]
  resolved := Array.replicate 24 none
  statics := none }

def pool4 : Array CpInfo := pool [(1, .methodref 2 3), (0, .class_ 4), (0, .nameAndType 5 6), (0, u "java/lang/Record"), (0, u "<init>"), (0, u "()V"), (38, .class_ 46), (0, u "com/example/hermit_crab/hermitcrab/sim/Topology$Ring"), (0, .class_ 48), (0, u "com/example/hermit_crab/hermitcrab/sim/Topology"), (2, u "links"), (0, u "(III)Z")] 37

def k4c0 : Code := { maxStack := 1, maxLocals := 1, code := prog_32_method_1_code, exceptionTable := #[], attributes := #[] }
def k4m0 : Method := { name := "<init>", desc := "()V", sig := { parameters := [], returnType := none }, accessFlags := 1, code := some k4c0 }
def k4c1 : Code := { maxStack := 3, maxLocals := 4, code := prog_32_method_2_code, exceptionTable := #[], attributes := #[] }
def k4m1 : Method := { name := "links", desc := "(III)Z", sig := { parameters := [.int, .int, .int], returnType := some .boolean }, accessFlags := 1, code := some k4c1 }
/-- com/example/hermit_crab/hermitcrab/sim/Topology$Ring -/
def k4 : Class := { plain "com/example/hermit_crab/hermitcrab/sim/Topology$Ring" (some 2) with
  accessFlags := 49
  interfaces := #[3]
  cf := some (fileOf pool4 45 #[.nestHost 47] #[{ accessFlags := 1, nameIndex := 5, descriptorIndex := 6, attributes := #[] }, { accessFlags := 1, nameIndex := 51, descriptorIndex := 52, attributes := #[] }] 49 2 #[47] #[])
  fields := #[]
  methods := #[k4m0, k4m1]
  instanceTypes := #[]
  staticTypes := #[]
  resolved := Array.replicate 90 none
  statics := none }

def pool5 : Array CpInfo := pool [(1, u "java/lang/Cloneable"), (0, .class_ 1), (0, u "java/lang/Object"), (0, .class_ 3)] 3

/-- java/lang/Cloneable -/
def k5 : Class := { plain "java/lang/Cloneable" (some 0) with
  accessFlags := 1537
  interfaces := #[]
  cf := some (fileOf pool5 2 #[] #[] 1537 4 #[] #[])
  fields := #[]
  methods := #[]
  instanceTypes := #[]
  staticTypes := #[]
  resolved := Array.replicate 8 none
  statics := none }

def pool6 : Array CpInfo := pool [(1, u "java/io/Serializable"), (0, .class_ 1), (0, u "java/lang/Object"), (0, .class_ 3)] 3

/-- java/io/Serializable -/
def k6 : Class := { plain "java/io/Serializable" (some 0) with
  accessFlags := 1537
  interfaces := #[]
  cf := some (fileOf pool6 2 #[] #[] 1537 4 #[] #[])
  fields := #[]
  methods := #[]
  instanceTypes := #[]
  staticTypes := #[]
  resolved := Array.replicate 8 none
  statics := none }

/-- the primitive byte -/
def k7 : Class := { plain "byte" none with kind := .primitive 'B', accessFlags := 0x411 }
/-- [B -/
def k8 : Class := { plain "[B" (some 0) with kind := .array 7 .byte, interfaces := #[5, 6], accessFlags := 1041 }

/-- the primitive int -/
def k9 : Class := { plain "int" none with kind := .primitive 'I', accessFlags := 0x411 }
/-- [I -/
def k10 : Class := { plain "[I" (some 0) with kind := .array 9 .int, interfaces := #[5, 6], accessFlags := 1041 }

def heap : Heap := #[]
def classes : Array Class := #[k0, k1, k2, k3, k4, k5, k6, k7, k8, k9, k10]
def interned : List (Array UInt16 × Addr) := []
def slotsUsed : Nat := 0
def theMethod : MethodId := ⟨1, 1⟩
def args0 : Array Value := #[.int 5, .int 5, .int 5, .int 5]
def aboutOver (below : List Frame) : State where
  vm := { classes := classes, interned := interned.toArray }
  heap := heap
  slotsUsed := slotsUsed
  threads := #[{ frames := .invoking theMethod args0 :: below }]
def below0 : List Frame := [.native { method := ⟨0, 0⟩, args := #[] }]
def about1 : State := aboutOver below0
def p0 : Program := .bare "" "" ""
def e0 : Env := launch0.env 0 0 0
theorem w_frames : about1.frames = Frame.invoking theMethod args0 :: below0 := rfl
set_option maxRecDepth 65536 in
theorem w_args : argsFit about1.vm theMethod args0 = true := by decide +kernel
set_option maxRecDepth 65536 in
theorem w_heap : heapFits about1 = true := by decide +kernel
set_option maxRecDepth 65536 in
theorem w_runnable : about1.curStatus? = some .runnable := by decide +kernel
set_option maxRecDepth 65536 in
theorem w_alone : about1.alone = true := by decide +kernel
set_option maxRecDepth 65536 in
theorem w_named : about1.methodNamed? x = some theMethod := by decide +kernel
set_option maxRecDepth 65536 in
theorem w_hears : about1.hears theMethod below0 = true := by decide +kernel
set_option maxRecDepth 65536 in
theorem w_ripe : about1.ripe theMethod args0 below0 = true := by decide +kernel
theorem w_running : about1.status = .running := rfl
set_option maxRecDepth 65536 in
theorem w_room : about1.hasRoom e0.platform room_1 = true :=
  launch0.hasRoom_least _ room_1 (by decide +kernel) (by decide +kernel) (by decide +kernel) (by decide +kernel) (by decide +kernel) (by decide +kernel)
theorem allAtoms_all (ts : List Jvm.Cond) (a : Array Jvm.Value) (st : Jvm.State) : (allAtoms ts).before a st = ts.all (fun c => c.before a st) := by
  induction ts with
  | nil => rfl
  | cons c t ih =>
    show (Jvm.Cond.and c (allAtoms t)).before a st = _
    rw [Jvm.Cond.before_and, ih, List.all_cons]
def words1 : List Jvm.Cond := Jvm.Cond.code x code maxLocals ret :: tables_1
/-- a 'code' word, met by the world's own term for the bytes: nothing is compared byte by byte -/
theorem code_word {y : MethodName} {bytes : ByteArray} {mx : Nat} {rt : Option FieldType} {a : Array Value} {s : State} {m : MethodId} {meth : Method} {c : Code} (h1 : s.methodNamed? y = some m) (h2 : s.vm.method? m = some meth) (h3 : meth.code = some c) (h4 : c.code = bytes)
    (h5 : (c.maxLocals == mx && c.exceptionTable.isEmpty && decide (c.maxStack ≤ mostOperands) && decide (meth.sig.returnType = rt) && !meth.locks && decide (parseMethodDescriptor y.desc = some meth.sig)) = true) : (Jvm.Cond.code y bytes mx rt).before a s = true := by
  simp only [Bool.and_eq_true, beq_iff_eq, Bool.not_eq_true', decide_eq_true_eq] at h5
  obtain ⟨⟨⟨⟨⟨g1, g2⟩, g3⟩, g4⟩, g5⟩, g6⟩ := h5
  simp [Cond.before, Cond.holds, Cond.value, h1, h2, h3, h4, g1, g2, g3, g4, g5, g6]
def isCode : Jvm.Cond → Bool
  | .code _ _ _ _ => true
  | _ => false
theorem all_split {L : List Jvm.Cond} {P : Jvm.Cond → Bool} (h1 : L.all (fun c => isCode c || P c) = true) (h2 : ∀ c ∈ L.filter isCode, P c = true) : L.all P = true := by
  refine List.all_eq_true.mpr fun c hc => ?_
  have h := List.all_eq_true.mp h1 c hc
  rcases Bool.eq_false_or_eq_true (isCode c) with hi | hi
  · exact h2 c (List.mem_filter.mpr ⟨hc, hi⟩)
  · simpa [hi] using h
set_option maxRecDepth 65536 in
theorem w_c0 : (Jvm.Cond.code x code maxLocals ret).before args0 about1 = true := code_word (m := ⟨1, 1⟩) (meth := k1m1) (c := k1c1) (by decide +kernel) rfl rfl rfl (by decide +kernel)
set_option maxRecDepth 65536 in
theorem w_c1 : (Jvm.Cond.code ({ cls := "com/example/hermit_crab/hermitcrab/sim/Topology$Ring", name := "<init>", desc := "()V" } : Jvm.MethodName) prog_32_method_1_code (1 : Nat) (Option.none : Option Jvm.ClassFile.FieldType)).before args0 about1 = true := code_word (m := ⟨4, 0⟩) (meth := k4m0) (c := k4c0) (by decide +kernel) rfl rfl rfl (by decide +kernel)
set_option maxRecDepth 65536 in
theorem w_c2 : (Jvm.Cond.code ({ cls := "java/lang/Record", name := "<init>", desc := "()V" } : Jvm.MethodName) jdk_30_method_1_code (1 : Nat) (Option.none : Option Jvm.ClassFile.FieldType)).before args0 about1 = true := code_word (m := ⟨2, 0⟩) (meth := k2m0) (c := k2c0) (by decide +kernel) rfl rfl rfl (by decide +kernel)
set_option maxRecDepth 65536 in
theorem w_c3 : (Jvm.Cond.code ({ cls := "java/lang/Object", name := "<init>", desc := "()V" } : Jvm.MethodName) object_method_1_code (1 : Nat) (Option.none : Option Jvm.ClassFile.FieldType)).before args0 about1 = true := code_word (m := ⟨0, 0⟩) (meth := k0m0) (c := k0c0) (by decide +kernel) rfl rfl rfl (by decide +kernel)
set_option maxRecDepth 65536 in
theorem w_c4 : (Jvm.Cond.code ({ cls := "com/example/hermit_crab/hermitcrab/sim/Topology$Ring", name := "links", desc := "(III)Z" } : Jvm.MethodName) prog_32_method_2_code (4 : Nat) (Option.some Jvm.ClassFile.FieldType.boolean)).before args0 about1 = true := code_word (m := ⟨4, 1⟩) (meth := k4m1) (c := k4c1) (by decide +kernel) rfl rfl rfl (by decide +kernel)
def codes1 : List Jvm.Cond := [Jvm.Cond.code x code maxLocals ret, Jvm.Cond.code ({ cls := "com/example/hermit_crab/hermitcrab/sim/Topology$Ring", name := "<init>", desc := "()V" } : Jvm.MethodName) prog_32_method_1_code (1 : Nat) (Option.none : Option Jvm.ClassFile.FieldType), Jvm.Cond.code ({ cls := "java/lang/Record", name := "<init>", desc := "()V" } : Jvm.MethodName) jdk_30_method_1_code (1 : Nat) (Option.none : Option Jvm.ClassFile.FieldType), Jvm.Cond.code ({ cls := "java/lang/Object", name := "<init>", desc := "()V" } : Jvm.MethodName) object_method_1_code (1 : Nat) (Option.none : Option Jvm.ClassFile.FieldType), Jvm.Cond.code ({ cls := "com/example/hermit_crab/hermitcrab/sim/Topology$Ring", name := "links", desc := "(III)Z" } : Jvm.MethodName) prog_32_method_2_code (4 : Nat) (Option.some Jvm.ClassFile.FieldType.boolean)]
set_option maxRecDepth 65536 in
theorem codes_eq : words1.filter isCode = codes1 := rfl
theorem w_codes : ∀ c ∈ words1.filter isCode, c.before args0 about1 = true := by
  rw [codes_eq]
  intro c hc
  simp only [codes1, List.mem_cons, List.not_mem_nil, or_false] at hc
  rcases hc with rfl | rfl | rfl | rfl | rfl
  · exact w_c0
  · exact w_c1
  · exact w_c2
  · exact w_c3
  · exact w_c4
set_option maxRecDepth 65536 in
theorem w_t1 : words1.all (fun c => isCode c || c.before args0 about1) = true := by decide +kernel
theorem w_tables : (allAtoms (Jvm.Cond.code x code maxLocals ret :: tables_1)).before args0 about1 = true := by
  rw [allAtoms_all]
  show words1.all (fun c => c.before args0 about1) = true
  refine all_split ?_ w_codes
  rw [w_t1]
set_option maxRecDepth 65536 in
theorem w_case : (Jvm.Cond.and given_1 narrow_1).before args0 about1 = true := by decide +kernel
theorem w_applies : (headSpec (Jvm.Cond.code x code maxLocals ret :: tables_1) room_1).applies x e0.platform about1 = true :=
  (Spec.applies_iff w_frames).mpr ⟨w_running, w_runnable, w_alone, w_named, w_hears, w_ripe, w_room, w_tables⟩
theorem atStart : AtStart classFile x code maxLocals ret World_1 tables_1 room_1 Calls_1 rest_1 Pre_1 launch0 p0 e0 about1 theMethod args0 below0 :=
  ⟨lists_1, trivial, launch0.admits_env _ _ _, launch0.least_env, fairChoices_fair.cas, fairChoices_fair.clock, w_frames, w_args, w_heap, w_applies, trivial, trivial, w_case⟩
end start1
theorem witness_1 : WitnessClaimed_1 := ⟨start1.p0, start1.e0, start1.about1, start1.theMethod, start1.args0, start1.below0, start1.atStart⟩
end Jvm.Pilot.@@N@@
