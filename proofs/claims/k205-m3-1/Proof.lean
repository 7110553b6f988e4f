import JvmDerived
import JvmDerived.Pilot.@@N@@Statement
import JvmDerived.Pilot.@@N@@Code
set_option linter.unusedVariables false
set_option linter.unusedSimpArgs false
namespace Jvm.RoadKit
open Sem ClassFile Op Lib Jvm.Stand Jvm.Free Jvm.LawKit
section New
variable {p : Program} {l : Launch} {e : Env} {R : Room} {s : State} {m : MethodId} {args : Array Value} {below : List Frame} {meth : Method} {c : Code} {T : State} {locs : List Loc} {cells slots : Nat}
theorem retI (X : Stand p l e R s m args below meth c T locs cells slots) (hx : p.tables.exec = Jvm.exec) {pc : Nat} {Ls : Array Slot} {z : Int32} {rest : List Value} (hret : meth.sig.returnType = some .int) (hd : decode c.code pc = .ok (.ireturn, 1)) {fs : List Frame}
    (hl : ∀ (f : JFrame) (acts : List Action), f.method = m → f.locked = none → f.entered = [] → (doReturn e (T.setTop f) acts (some (.int z))).1 = T.setFrames fs) : Steps p.tables e below (T.setTop (mkF m pc Ls (.int z :: rest))) (T.setFrames fs) := by
  have hm' : T.vm.method? m = some meth := X.method'
  have hn : narrow .int (.int z) = .int z := rfl
  show Steps p.tables e below (T.setTop { method := m, pc := pc, locals := Ls, stack := _ :: rest, locked := none }) _
  jvm_step X.here [X.here.top, hx, hd, hm', hret, hn]
  first | (intro acts; rw [hl _ acts rfl rfl rfl]) | rw [hl _ _ rfl rfl rfl]
  exact Steps.refl _
theorem retL (X : Stand p l e R s m args below meth c T locs cells slots) (hx : p.tables.exec = Jvm.exec) {pc : Nat} {Ls : Array Slot} {z : Int64} {rest : List Value} (hret : meth.sig.returnType = some .long) (hd : decode c.code pc = .ok (.lreturn, 1)) {fs : List Frame}
    (hl : ∀ (f : JFrame) (acts : List Action), f.method = m → f.locked = none → f.entered = [] → (doReturn e (T.setTop f) acts (some (.long z))).1 = T.setFrames fs) : Steps p.tables e below (T.setTop (mkF m pc Ls (.long z :: rest))) (T.setFrames fs) := by
  have hm' : T.vm.method? m = some meth := X.method'
  have hn : narrow .long (.long z) = .long z := rfl
  show Steps p.tables e below (T.setTop { method := m, pc := pc, locals := Ls, stack := _ :: rest, locked := none }) _
  jvm_step X.here [X.here.top, hx, hd, hm', hret, hn]
  first | (intro acts; rw [hl _ acts rfl rfl rfl]) | rw [hl _ _ rfl rfl rfl]
  exact Steps.refl _
end New
end Jvm.RoadKit
namespace Jvm.Pilot.@@N@@
open Jvm Jvm.ClassFile Sem Op Lib Jvm.Free Jvm.Stand Jvm.LawKit Jvm.RoadKit Bundle Jvm.Pilot.@@N@@.Jvm.D
/-- the run comes from pc, with these locals and this stack, to t -/
abbrev SS (p : Program) (e : Env) (below : List Frame) (m : MethodId) (T : State) (pc : Nat) (ls : Array Slot) (st : List Value) (t : State) : Prop := Steps p.tables e below (T.setTop (mkF m pc ls st)) t
/-- a method that writes nothing and returns an int -/
def QI (r : Int32) (h0 : Heap) (n0 : Nat) (v : Option Value) (h : Heap) (L : List Loc) : Prop := v = some (.int r) ∧ Fr n0 L ∧ h = h0
def QL (r : Int64) (h0 : Heap) (n0 : Nat) (v : Option Value) (h : Heap) (L : List Loc) : Prop := v = some (.long r) ∧ Fr n0 L ∧ h = h0
def QV (h0 : Heap) (n0 : Nat) (v : Option Value) (h : Heap) (L : List Loc) : Prop := v = none ∧ Fr n0 L ∧ h = h0
/-- .. that may load String constants -/
def QC (r : Int32) (W0 : Vm → Heap → Prop) (h0 : Heap) (n0 : Nat) (v : Option Value) (h : Heap) (vm : Vm) (L : List Loc) : Prop := v = some (.int r) ∧ Fr n0 L ∧ Ext h0 h ∧ W0 vm h
def QIS (r : Int32) (h0 : Heap) (n0 : Nat) (v : Option Value) (h : Heap) (L : List Loc) : Prop := v = some (.int r) ∧ Fr n0 L ∧ Ext h0 h
theorem own_ext {a b c : Heap} (h : Ext a b) (k : Ext b c) : Ext a c := ⟨Nat.le_trans h.1 k.1, fun x y q => k.2 _ _ (h.2 _ _ q)⟩
theorem own_extw {a h h' : Heap} {x : Addr} {sl : Nat} {v : Value} (E : Ext a h) (W : Wr h h' x sl v) (q : a.size ≤ x) : Ext a h' := by
  have K := Keep.of_wr W
  refine ⟨Nat.le_trans E.1 K.1, fun y c hc => K.2.1 _ _ (E.2 _ _ hc) fun hm => ?_⟩
  have hl := (Array.getElem?_eq_some_iff.mp hc).1
  rw [List.mem_singleton] at hm
  rw [hm] at hl
  exact absurd hl (Nat.not_lt.mpr q)
def QE (n0 : Nat) (v : Option Value) (h : Heap) (L : List Loc) : Prop := v = some (.int 1) ∧ Fr n0 L
theorem d2_0 : decode jdk_30_method_1_code 0 = .ok (.aload_n 0, 1) := by decide +kernel
theorem d2_1 : decode jdk_30_method_1_code 1 = .ok (.invokespecial 1, 3) := by decide +kernel
theorem d2_4 : decode jdk_30_method_1_code 4 = .ok (.return_, 1) := by decide +kernel
theorem pn_2 : plainName "java/lang/Record" = true := by first | (simp [plainName, overriddenIn]; done) | decide +kernel
theorem ef_2 (m : MethodId) (a1 : Addr) : entryFrame m #[(.ref a1)] 1 = mkF m 0 #[rv a1] [] := by first | (simp [entryFrame, mkF, argsToLocals, Value.category]; done) | rfl
set_option maxRecDepth 65536 in
set_option maxHeartbeats 40000000 in
theorem rm2 (l : Launch) (Z : State) (a0 : Array Value) (hw : ∀ d ∈ tables_1, d.before a0 Z = true) (ws : List Jvm.Cond) (a1 : Addr)  (h0 : Heap) (n0 : Nat) (Z0 : n0 ≤ h0.size)  :
    MetFree l (⟨"java/lang/Record", "<init>", "()V"⟩ : MethodName) (head1 (Jvm.Cond.code (⟨"java/lang/Record", "<init>", "()V"⟩ : MethodName) jdk_30_method_1_code 1 none :: ws) ({ frames := 1, cells := 0, slots := 0, locals := 12 } : Room)) (fun a U => a = #[(.ref a1)] ∧ Z.Warmed39 U.vm ∧ U.heap = h0) (fun _ _ _ _ _ => True) (fun _ U o U' => ∃ v L, o = .returned v ∧ QV h0 n0 v U'.heap L ∧ FrameEnd U o U' L ({ frames := 1, cells := 0, slots := 0, locals := 12 } : Room).cells ({ frames := 1, cells := 0, slots := 0, locals := 12 } : Room).slots) := by
  refine MetFree.of_bodySF (plainFor_of_name pn_2) hisR ?_
  intro p e s m args below meth c s₁ Bd hml0 hP hK
  obtain ⟨rfl, hZ, hh⟩ := hP
  have hx := Bd.exec
  have hby := Bd.bytes
  have hml : c.maxLocals = 1 := hml0
  have hown : s.vm.findClass "java/lang/Record" = some m.cls := findClass_of_methodNamed Bd.named
  have hnm := (name_of_methodNamed Bd.named Bd.method).1
  have X0 : Stand p l e ({ frames := 1, cells := 0, slots := 0, locals := 12 } : Room) s m #[(.ref a1)] below meth c s₁ [] 0 0 := Stand.of_body Bd
  have e0 : s₁.heap = h0 := by rw [← hh, Bd.state]; rfl
  have N0 := Fr.nil n0
  obtain ⟨B, hB, pre0⟩ : ∃ B : State → Prop, (∀ t, B t → Steps p.tables e below (s₁.setTop (entryFrame m #[(.ref a1)] 1)) t) ∧ ∀ t, SS p e below m s₁ 0 #[rv a1] [] t → B t := ⟨_, fun _ q => q, fun t kk => castTop (ef_2 m a1) kk⟩
  have pre1 : ∀ t, SS p e below m s₁ 1 #[rv a1] [(.ref a1)] t → B t := fun t kk => pre0 t (by
    show SS p e below m s₁ 0 #[rv a1] [] _
    refine XS.aloadN X0.here hx rfl (hb hby d2_0) rfl rfl ?_
    show SS p e below m s₁ 1 #[rv a1] [(.ref a1)] _
    exact kk)
  obtain ⟨T2, X2, e2, st2⟩ := initO X0 hx hZ hown (hw _ (List.mem_of_getElem? (i := 12) rfl)) (hw _ (List.mem_of_getElem? (i := 13) rfl)) (hw _ (List.mem_of_getElem? (i := 14) rfl)) e0 (g := (mkF m 1 #[rv a1] [(.ref a1)])) rfl (by rw [hml]; rfl) rfl (hb hby d2_1) (by decide) (W := 0) (by show 2 * 0 + _ ≤ _; exact Nat.le_of_eq rfl) (by decide)
  have pre3 : ∀ t, SS p e below m T2 4 #[rv a1] [] t → B t := fun t kk => pre1 t (by
    refine st2 _ ?_
    show SS p e below m T2 4 #[rv a1] [] _
    exact kk)
  obtain ⟨fs, hr, hrun, hended, hW, hsame⟩ := X2.leave (v := none) (fun _ => rfl)
  refine ⟨_, _, hB _ (pre3 _ ?_), hrun, hended, _, _, rfl, ?_, ⟨_, rfl⟩, hW, hsame.mono (by decide) (by decide)⟩
  · exact X2.returnOut hx Bd.returns (hb hby d2_4) hr
  · exact ⟨rfl, N0, e2⟩
def QN (Z : State) (a1 : Addr) (fl : Int32) (h0 : Heap) (n0 : Nat) (v : Option Value) (h : Heap) (L : List Loc) : Prop := v = none ∧ Fr n0 L ∧ Keep h0 h [a1] ∧ Exa Z h a1 "com/example/reston/reston/codec/Envelope" ∧ Fld Z h a1 "com/example/reston/reston/codec/Envelope" "flags" "I" (.int fl)
theorem d1_0 : decode prog_8_method_1_code 0 = .ok (.aload_n 0, 1) := by decide +kernel
theorem d1_1 : decode prog_8_method_1_code 1 = .ok (.invokespecial 1, 3) := by decide +kernel
theorem d1_4 : decode prog_8_method_1_code 4 = .ok (.aload_n 0, 1) := by decide +kernel
theorem d1_5 : decode prog_8_method_1_code 5 = .ok (.iload_n 1, 1) := by decide +kernel
theorem d1_6 : decode prog_8_method_1_code 6 = .ok (.putfield 7, 3) := by decide +kernel
theorem d1_9 : decode prog_8_method_1_code 9 = .ok (.aload_n 0, 1) := by decide +kernel
theorem d1_10 : decode prog_8_method_1_code 10 = .ok (.iload_n 2, 1) := by decide +kernel
theorem d1_11 : decode prog_8_method_1_code 11 = .ok (.putfield 13, 3) := by decide +kernel
theorem d1_14 : decode prog_8_method_1_code 14 = .ok (.aload_n 0, 1) := by decide +kernel
theorem d1_15 : decode prog_8_method_1_code 15 = .ok (.iload_n 3, 1) := by decide +kernel
theorem d1_16 : decode prog_8_method_1_code 16 = .ok (.putfield 16, 3) := by decide +kernel
theorem d1_19 : decode prog_8_method_1_code 19 = .ok (.aload_n 0, 1) := by decide +kernel
theorem d1_20 : decode prog_8_method_1_code 20 = .ok (.iload 4, 2) := by decide +kernel
theorem d1_22 : decode prog_8_method_1_code 22 = .ok (.putfield 19, 3) := by decide +kernel
theorem d1_25 : decode prog_8_method_1_code 25 = .ok (.aload_n 0, 1) := by decide +kernel
theorem d1_26 : decode prog_8_method_1_code 26 = .ok (.iload 5, 2) := by decide +kernel
theorem d1_28 : decode prog_8_method_1_code 28 = .ok (.putfield 22, 3) := by decide +kernel
theorem d1_31 : decode prog_8_method_1_code 31 = .ok (.aload_n 0, 1) := by decide +kernel
theorem d1_32 : decode prog_8_method_1_code 32 = .ok (.iload 6, 2) := by decide +kernel
theorem d1_34 : decode prog_8_method_1_code 34 = .ok (.putfield 25, 3) := by decide +kernel
theorem d1_37 : decode prog_8_method_1_code 37 = .ok (.aload_n 0, 1) := by decide +kernel
theorem d1_38 : decode prog_8_method_1_code 38 = .ok (.lload 7, 2) := by decide +kernel
theorem d1_40 : decode prog_8_method_1_code 40 = .ok (.putfield 28, 3) := by decide +kernel
theorem d1_43 : decode prog_8_method_1_code 43 = .ok (.return_, 1) := by decide +kernel
theorem pn_1 : plainName "com/example/reston/reston/codec/Envelope" = true := by first | (simp [plainName, overriddenIn]; done) | decide +kernel
theorem pd_0 : parseMethodDescriptor "()V" = some ⟨[], none⟩ := by decide +kernel
theorem ef_1 (m : MethodId) (a1 : Addr) (p2 : Int32) (p3 : Int32) (p4 : Int32) (p5 : Int32) (p6 : Int32) (p7 : Int32) (q8 : Int64) : entryFrame m #[(.ref a1), (.int p2), (.int p3), (.int p4), (.int p5), (.int p6), (.int p7), (.long q8)] 9 = mkF m 0 #[rv a1, iv p2, iv p3, iv p4, iv p5, iv p6, iv p7, .val (.long q8), .second] [] := by first | (simp [entryFrame, mkF, argsToLocals, Value.category]; done) | rfl
set_option maxRecDepth 65536 in
set_option maxHeartbeats 40000000 in
theorem rm1 (l : Launch) (Z : State) (a0 : Array Value) (hw : ∀ d ∈ tables_1, d.before a0 Z = true) (ws : List Jvm.Cond) (a1 : Addr) (p2 : Int32) (p3 : Int32) (p4 : Int32) (p5 : Int32) (p6 : Int32) (p7 : Int32) (q8 : Int64)  (h0 : Heap) (n0 : Nat) (Z0 : n0 ≤ h0.size) (E_a1 : Exa Z h0 a1 "com/example/reston/reston/codec/Envelope") (g_a1 : n0 ≤ a1) (F_majorVersion : Fld Z h0 a1 "com/example/reston/reston/codec/Envelope" "majorVersion" "I" (.int (0 : Int32))) (F_minorVersion : Fld Z h0 a1 "com/example/reston/reston/codec/Envelope" "minorVersion" "I" (.int (0 : Int32))) (F_flags : Fld Z h0 a1 "com/example/reston/reston/codec/Envelope" "flags" "I" (.int (0 : Int32))) (F_sessionId : Fld Z h0 a1 "com/example/reston/reston/codec/Envelope" "sessionId" "I" (.int (0 : Int32))) (F_requestId : Fld Z h0 a1 "com/example/reston/reston/codec/Envelope" "requestId" "I" (.int (0 : Int32))) (F_sequenceNumber : Fld Z h0 a1 "com/example/reston/reston/codec/Envelope" "sequenceNumber" "I" (.int (0 : Int32))) (F_messageLength : Fld Z h0 a1 "com/example/reston/reston/codec/Envelope" "messageLength" "J" (.long (0 : Int64))) :
    MetFree l (⟨"com/example/reston/reston/codec/Envelope", "<init>", "(IIIIIIJ)V"⟩ : MethodName) (head1 (Jvm.Cond.code (⟨"com/example/reston/reston/codec/Envelope", "<init>", "(IIIIIIJ)V"⟩ : MethodName) prog_8_method_1_code 9 none :: ws) ({ frames := 2, cells := 0, slots := 0, locals := 24 } : Room)) (fun a U => a = #[(.ref a1), (.int p2), (.int p3), (.int p4), (.int p5), (.int p6), (.int p7), (.long q8)] ∧ Z.Warmed39 U.vm ∧ U.heap = h0) (fun _ _ _ _ _ => True) (fun _ U o U' => ∃ v L, o = .returned v ∧ QN Z a1 p4 h0 n0 v U'.heap L ∧ FrameEnd U o U' L ({ frames := 2, cells := 0, slots := 0, locals := 24 } : Room).cells ({ frames := 2, cells := 0, slots := 0, locals := 24 } : Room).slots) := by
  refine MetFree.of_bodySF (plainFor_of_name pn_1) hisR ?_
  intro p e s m args below meth c s₁ Bd hml0 hP hK
  obtain ⟨rfl, hZ, hh⟩ := hP
  have hx := Bd.exec
  have hby := Bd.bytes
  have hml : c.maxLocals = 9 := hml0
  have hown : s.vm.findClass "com/example/reston/reston/codec/Envelope" = some m.cls := findClass_of_methodNamed Bd.named
  have hnm := (name_of_methodNamed Bd.named Bd.method).1
  have X0 : Stand p l e ({ frames := 2, cells := 0, slots := 0, locals := 24 } : Room) s m #[(.ref a1), (.int p2), (.int p3), (.int p4), (.int p5), (.int p6), (.int p7), (.long q8)] below meth c s₁ [] 0 0 := Stand.of_body Bd
  have e0 : s₁.heap = h0 := by rw [← hh, Bd.state]; rfl
  have N0 := Fr.nil n0
  obtain ⟨B, hB, pre0⟩ : ∃ B : State → Prop, (∀ t, B t → Steps p.tables e below (s₁.setTop (entryFrame m #[(.ref a1), (.int p2), (.int p3), (.int p4), (.int p5), (.int p6), (.int p7), (.long q8)] 9)) t) ∧ ∀ t, SS p e below m s₁ 0 #[rv a1, iv p2, iv p3, iv p4, iv p5, iv p6, iv p7, .val (.long q8), .second] [] t → B t := ⟨_, fun _ q => q, fun t kk => castTop (ef_1 m a1 p2 p3 p4 p5 p6 p7 q8) kk⟩
  have pre1 : ∀ t, SS p e below m s₁ 1 #[rv a1, iv p2, iv p3, iv p4, iv p5, iv p6, iv p7, .val (.long q8), .second] [(.ref a1)] t → B t := fun t kk => pre0 t (by
    show SS p e below m s₁ 0 #[rv a1, iv p2, iv p3, iv p4, iv p5, iv p6, iv p7, .val (.long q8), .second] [] _
    refine XS.aloadN X0.here hx rfl (hb hby d1_0) rfl rfl ?_
    show SS p e below m s₁ 1 #[rv a1, iv p2, iv p3, iv p4, iv p5, iv p6, iv p7, .val (.long q8), .second] [(.ref a1)] _
    exact kk)
  obtain ⟨_, _, ⟨T2, L2, k2, n2⟩, -, X2, ⟨Lc2, hQ2, l2, y2, z2⟩, st2⟩ := X0.specialBack hx (y := (⟨"java/lang/Record", "<init>", "()V"⟩ : MethodName)) rfl hown (mvT hZ (hw _ (List.mem_of_getElem? (i := 7) rfl))) (mvT hZ (hw _ (List.mem_of_getElem? (i := 8) rfl))) (mvT hZ (hw _ (List.mem_of_getElem? (i := 11) rfl))) (by decide) (backOf (W := 0) (rm2 l Z a0 hw [] a1 h0 n0 Z0 ) hZ (hw _ (List.mem_of_getElem? (i := 11) rfl)) (hw _ (List.mem_of_getElem? (i := 10) rfl)) (by decide) (by decide)) (g := (mkF m 1 #[rv a1, iv p2, iv p3, iv p4, iv p5, iv p6, iv p7, .val (.long q8), .second] [(.ref a1)])) rfl (by rw [hml]; rfl) (Steps.refl _) (a := a1) (argsL := []) (rest := []) (lenOf pd_0 rfl) rfl (by show 2 * 0 + _ ≤ _; exact Nat.le_of_eq rfl) (hb hby d1_1) (fun _ _ => ⟨rfl, e0, (by decide : 0 + 0 ≤ _), (by decide : 0 + 0 ≤ _)⟩)
  dsimp only [Pt.U, Pt.locs, Pt.cells, Pt.slots] at X2 l2 y2 z2 st2 hQ2
  subst l2 y2 z2
  obtain ⟨rfl, N2q, e2⟩ := hQ2
  have N2 := Fr.app N0 N2q
  have pre3 : ∀ t, SS p e below m T2 6 #[rv a1, iv p2, iv p3, iv p4, iv p5, iv p6, iv p7, .val (.long q8), .second] [(.int p2), (.ref a1)] t → B t := fun t kk => pre1 t (by
    refine st2.trans ?_
    show SS p e below m T2 4 #[rv a1, iv p2, iv p3, iv p4, iv p5, iv p6, iv p7, .val (.long q8), .second] [] _
    refine XS.aloadN X2.here hx rfl (hb hby d1_4) rfl rfl ?_
    show SS p e below m T2 5 #[rv a1, iv p2, iv p3, iv p4, iv p5, iv p6, iv p7, .val (.long q8), .second] [(.ref a1)] _
    refine XS.iloadN X2.here hx rfl (hb hby d1_5) rfl ?_
    show SS p e below m T2 6 #[rv a1, iv p2, iv p3, iv p4, iv p5, iv p6, iv p7, .val (.long q8), .second] [(.int p2), (.ref a1)] _
    exact kk)
  obtain ⟨T4, h4, X4, e4, W4, st4⟩ := putF X2 hx hZ hown (host := "") (Or.inl (hw _ (List.mem_of_getElem? (i := 15) rfl))) Via.refl e2 F_majorVersion E_a1 (Or.inr ⟨(hw _ (List.mem_of_getElem? (i := 16) rfl)), rfl, hnm⟩) (hw _ (List.mem_of_getElem? (i := 2) rfl)) (ty := .int) (by decide) rfl rfl (g := (mkF m 6 #[rv a1, iv p2, iv p3, iv p4, iv p5, iv p6, iv p7, .val (.long q8), .second] [(.int p2), (.ref a1)])) rfl rfl (hb hby d1_6)
  have F5 := E_a1.wr W4
  have F6 := F_majorVersion.same W4
  have F7 := F_minorVersion.other W4 (Or.inr (slot_ne (Or.inr (hw _ (List.mem_of_getElem? (i := 18) rfl))) (Or.inr (hw _ (List.mem_of_getElem? (i := 16) rfl))) (by decide) (t := .int) (t' := .int) (by decide) (by decide)))
  have F8 := F_flags.other W4 (Or.inr (slot_ne (Or.inr (hw _ (List.mem_of_getElem? (i := 20) rfl))) (Or.inr (hw _ (List.mem_of_getElem? (i := 16) rfl))) (by decide) (t := .int) (t' := .int) (by decide) (by decide)))
  have F9 := F_sessionId.other W4 (Or.inr (slot_ne (Or.inr (hw _ (List.mem_of_getElem? (i := 22) rfl))) (Or.inr (hw _ (List.mem_of_getElem? (i := 16) rfl))) (by decide) (t := .int) (t' := .int) (by decide) (by decide)))
  have F10 := F_requestId.other W4 (Or.inr (slot_ne (Or.inr (hw _ (List.mem_of_getElem? (i := 24) rfl))) (Or.inr (hw _ (List.mem_of_getElem? (i := 16) rfl))) (by decide) (t := .int) (t' := .int) (by decide) (by decide)))
  have F11 := F_sequenceNumber.other W4 (Or.inr (slot_ne (Or.inr (hw _ (List.mem_of_getElem? (i := 26) rfl))) (Or.inr (hw _ (List.mem_of_getElem? (i := 16) rfl))) (by decide) (t := .int) (t' := .int) (by decide) (by decide)))
  have F12 := F_messageLength.other W4 (Or.inr (slot_ne (Or.inr (hw _ (List.mem_of_getElem? (i := 28) rfl))) (Or.inr (hw _ (List.mem_of_getElem? (i := 16) rfl))) (by decide) (t := .long) (t' := .int) (by decide) (by decide)))
  have N4 := Fr.snoc X4 N2 g_a1
  have Z4 : n0 ≤ h4.size := Nat.le_trans Z0 (Keep.of_wr W4).1
  have K4 := (Keep.refl h0 [a1]).wr W4 (Or.inl (List.mem_of_getElem? (i := 0) rfl))
  have pre13 : ∀ t, SS p e below m T4 11 #[rv a1, iv p2, iv p3, iv p4, iv p5, iv p6, iv p7, .val (.long q8), .second] [(.int p3), (.ref a1)] t → B t := fun t kk => pre3 t (by
    refine st4 _ ?_
    show SS p e below m T4 9 #[rv a1, iv p2, iv p3, iv p4, iv p5, iv p6, iv p7, .val (.long q8), .second] [] _
    refine XS.aloadN X4.here hx rfl (hb hby d1_9) rfl rfl ?_
    show SS p e below m T4 10 #[rv a1, iv p2, iv p3, iv p4, iv p5, iv p6, iv p7, .val (.long q8), .second] [(.ref a1)] _
    refine XS.iloadN X4.here hx rfl (hb hby d1_10) rfl ?_
    show SS p e below m T4 11 #[rv a1, iv p2, iv p3, iv p4, iv p5, iv p6, iv p7, .val (.long q8), .second] [(.int p3), (.ref a1)] _
    exact kk)
  obtain ⟨T14, h14, X14, e14, W14, st14⟩ := putF X4 hx hZ hown (host := "") (Or.inl (hw _ (List.mem_of_getElem? (i := 17) rfl))) Via.refl e4 F7 F5 (Or.inr ⟨(hw _ (List.mem_of_getElem? (i := 18) rfl)), rfl, hnm⟩) (hw _ (List.mem_of_getElem? (i := 2) rfl)) (ty := .int) (by decide) rfl rfl (g := (mkF m 11 #[rv a1, iv p2, iv p3, iv p4, iv p5, iv p6, iv p7, .val (.long q8), .second] [(.int p3), (.ref a1)])) rfl rfl (hb hby d1_11)
  have F15 := F5.wr W14
  have F16 := F7.same W14
  have F17 := F8.other W14 (Or.inr (slot_ne (Or.inr (hw _ (List.mem_of_getElem? (i := 20) rfl))) (Or.inr (hw _ (List.mem_of_getElem? (i := 18) rfl))) (by decide) (t := .int) (t' := .int) (by decide) (by decide)))
  have F18 := F9.other W14 (Or.inr (slot_ne (Or.inr (hw _ (List.mem_of_getElem? (i := 22) rfl))) (Or.inr (hw _ (List.mem_of_getElem? (i := 18) rfl))) (by decide) (t := .int) (t' := .int) (by decide) (by decide)))
  have F19 := F10.other W14 (Or.inr (slot_ne (Or.inr (hw _ (List.mem_of_getElem? (i := 24) rfl))) (Or.inr (hw _ (List.mem_of_getElem? (i := 18) rfl))) (by decide) (t := .int) (t' := .int) (by decide) (by decide)))
  have F20 := F11.other W14 (Or.inr (slot_ne (Or.inr (hw _ (List.mem_of_getElem? (i := 26) rfl))) (Or.inr (hw _ (List.mem_of_getElem? (i := 18) rfl))) (by decide) (t := .int) (t' := .int) (by decide) (by decide)))
  have F21 := F12.other W14 (Or.inr (slot_ne (Or.inr (hw _ (List.mem_of_getElem? (i := 28) rfl))) (Or.inr (hw _ (List.mem_of_getElem? (i := 18) rfl))) (by decide) (t := .long) (t' := .int) (by decide) (by decide)))
  have N14 := Fr.snoc X14 N4 g_a1
  have Z14 : n0 ≤ h14.size := Nat.le_trans Z4 (Keep.of_wr W14).1
  have K14 := K4.wr W14 (Or.inl (List.mem_of_getElem? (i := 0) rfl))
  have pre22 : ∀ t, SS p e below m T14 16 #[rv a1, iv p2, iv p3, iv p4, iv p5, iv p6, iv p7, .val (.long q8), .second] [(.int p4), (.ref a1)] t → B t := fun t kk => pre13 t (by
    refine st14 _ ?_
    show SS p e below m T14 14 #[rv a1, iv p2, iv p3, iv p4, iv p5, iv p6, iv p7, .val (.long q8), .second] [] _
    refine XS.aloadN X14.here hx rfl (hb hby d1_14) rfl rfl ?_
    show SS p e below m T14 15 #[rv a1, iv p2, iv p3, iv p4, iv p5, iv p6, iv p7, .val (.long q8), .second] [(.ref a1)] _
    refine XS.iloadN X14.here hx rfl (hb hby d1_15) rfl ?_
    show SS p e below m T14 16 #[rv a1, iv p2, iv p3, iv p4, iv p5, iv p6, iv p7, .val (.long q8), .second] [(.int p4), (.ref a1)] _
    exact kk)
  obtain ⟨T23, h23, X23, e23, W23, st23⟩ := putF X14 hx hZ hown (host := "") (Or.inl (hw _ (List.mem_of_getElem? (i := 19) rfl))) Via.refl e14 F17 F15 (Or.inr ⟨(hw _ (List.mem_of_getElem? (i := 20) rfl)), rfl, hnm⟩) (hw _ (List.mem_of_getElem? (i := 2) rfl)) (ty := .int) (by decide) rfl rfl (g := (mkF m 16 #[rv a1, iv p2, iv p3, iv p4, iv p5, iv p6, iv p7, .val (.long q8), .second] [(.int p4), (.ref a1)])) rfl rfl (hb hby d1_16)
  have F24 := F15.wr W23
  have F25 := F17.same W23
  have F26 := F18.other W23 (Or.inr (slot_ne (Or.inr (hw _ (List.mem_of_getElem? (i := 22) rfl))) (Or.inr (hw _ (List.mem_of_getElem? (i := 20) rfl))) (by decide) (t := .int) (t' := .int) (by decide) (by decide)))
  have F27 := F19.other W23 (Or.inr (slot_ne (Or.inr (hw _ (List.mem_of_getElem? (i := 24) rfl))) (Or.inr (hw _ (List.mem_of_getElem? (i := 20) rfl))) (by decide) (t := .int) (t' := .int) (by decide) (by decide)))
  have F28 := F20.other W23 (Or.inr (slot_ne (Or.inr (hw _ (List.mem_of_getElem? (i := 26) rfl))) (Or.inr (hw _ (List.mem_of_getElem? (i := 20) rfl))) (by decide) (t := .int) (t' := .int) (by decide) (by decide)))
  have F29 := F21.other W23 (Or.inr (slot_ne (Or.inr (hw _ (List.mem_of_getElem? (i := 28) rfl))) (Or.inr (hw _ (List.mem_of_getElem? (i := 20) rfl))) (by decide) (t := .long) (t' := .int) (by decide) (by decide)))
  have N23 := Fr.snoc X23 N14 g_a1
  have Z23 : n0 ≤ h23.size := Nat.le_trans Z14 (Keep.of_wr W23).1
  have K23 := K14.wr W23 (Or.inl (List.mem_of_getElem? (i := 0) rfl))
  have pre30 : ∀ t, SS p e below m T23 22 #[rv a1, iv p2, iv p3, iv p4, iv p5, iv p6, iv p7, .val (.long q8), .second] [(.int p5), (.ref a1)] t → B t := fun t kk => pre22 t (by
    refine st23 _ ?_
    show SS p e below m T23 19 #[rv a1, iv p2, iv p3, iv p4, iv p5, iv p6, iv p7, .val (.long q8), .second] [] _
    refine XS.aloadN X23.here hx rfl (hb hby d1_19) rfl rfl ?_
    show SS p e below m T23 20 #[rv a1, iv p2, iv p3, iv p4, iv p5, iv p6, iv p7, .val (.long q8), .second] [(.ref a1)] _
    refine XS.iload X23.here hx rfl (hb hby d1_20) rfl ?_
    show SS p e below m T23 22 #[rv a1, iv p2, iv p3, iv p4, iv p5, iv p6, iv p7, .val (.long q8), .second] [(.int p5), (.ref a1)] _
    exact kk)
  obtain ⟨T31, h31, X31, e31, W31, st31⟩ := putF X23 hx hZ hown (host := "") (Or.inl (hw _ (List.mem_of_getElem? (i := 21) rfl))) Via.refl e23 F26 F24 (Or.inr ⟨(hw _ (List.mem_of_getElem? (i := 22) rfl)), rfl, hnm⟩) (hw _ (List.mem_of_getElem? (i := 2) rfl)) (ty := .int) (by decide) rfl rfl (g := (mkF m 22 #[rv a1, iv p2, iv p3, iv p4, iv p5, iv p6, iv p7, .val (.long q8), .second] [(.int p5), (.ref a1)])) rfl rfl (hb hby d1_22)
  have F32 := F24.wr W31
  have F33 := F25.other W31 (Or.inr (slot_ne (Or.inr (hw _ (List.mem_of_getElem? (i := 20) rfl))) (Or.inr (hw _ (List.mem_of_getElem? (i := 22) rfl))) (by decide) (t := .int) (t' := .int) (by decide) (by decide)))
  have F34 := F26.same W31
  have F35 := F27.other W31 (Or.inr (slot_ne (Or.inr (hw _ (List.mem_of_getElem? (i := 24) rfl))) (Or.inr (hw _ (List.mem_of_getElem? (i := 22) rfl))) (by decide) (t := .int) (t' := .int) (by decide) (by decide)))
  have F36 := F28.other W31 (Or.inr (slot_ne (Or.inr (hw _ (List.mem_of_getElem? (i := 26) rfl))) (Or.inr (hw _ (List.mem_of_getElem? (i := 22) rfl))) (by decide) (t := .int) (t' := .int) (by decide) (by decide)))
  have F37 := F29.other W31 (Or.inr (slot_ne (Or.inr (hw _ (List.mem_of_getElem? (i := 28) rfl))) (Or.inr (hw _ (List.mem_of_getElem? (i := 22) rfl))) (by decide) (t := .long) (t' := .int) (by decide) (by decide)))
  have N31 := Fr.snoc X31 N23 g_a1
  have Z31 : n0 ≤ h31.size := Nat.le_trans Z23 (Keep.of_wr W31).1
  have K31 := K23.wr W31 (Or.inl (List.mem_of_getElem? (i := 0) rfl))
  have pre38 : ∀ t, SS p e below m T31 28 #[rv a1, iv p2, iv p3, iv p4, iv p5, iv p6, iv p7, .val (.long q8), .second] [(.int p6), (.ref a1)] t → B t := fun t kk => pre30 t (by
    refine st31 _ ?_
    show SS p e below m T31 25 #[rv a1, iv p2, iv p3, iv p4, iv p5, iv p6, iv p7, .val (.long q8), .second] [] _
    refine XS.aloadN X31.here hx rfl (hb hby d1_25) rfl rfl ?_
    show SS p e below m T31 26 #[rv a1, iv p2, iv p3, iv p4, iv p5, iv p6, iv p7, .val (.long q8), .second] [(.ref a1)] _
    refine XS.iload X31.here hx rfl (hb hby d1_26) rfl ?_
    show SS p e below m T31 28 #[rv a1, iv p2, iv p3, iv p4, iv p5, iv p6, iv p7, .val (.long q8), .second] [(.int p6), (.ref a1)] _
    exact kk)
  obtain ⟨T39, h39, X39, e39, W39, st39⟩ := putF X31 hx hZ hown (host := "") (Or.inl (hw _ (List.mem_of_getElem? (i := 23) rfl))) Via.refl e31 F35 F32 (Or.inr ⟨(hw _ (List.mem_of_getElem? (i := 24) rfl)), rfl, hnm⟩) (hw _ (List.mem_of_getElem? (i := 2) rfl)) (ty := .int) (by decide) rfl rfl (g := (mkF m 28 #[rv a1, iv p2, iv p3, iv p4, iv p5, iv p6, iv p7, .val (.long q8), .second] [(.int p6), (.ref a1)])) rfl rfl (hb hby d1_28)
  have F40 := F32.wr W39
  have F41 := F33.other W39 (Or.inr (slot_ne (Or.inr (hw _ (List.mem_of_getElem? (i := 20) rfl))) (Or.inr (hw _ (List.mem_of_getElem? (i := 24) rfl))) (by decide) (t := .int) (t' := .int) (by decide) (by decide)))
  have F42 := F35.same W39
  have F43 := F36.other W39 (Or.inr (slot_ne (Or.inr (hw _ (List.mem_of_getElem? (i := 26) rfl))) (Or.inr (hw _ (List.mem_of_getElem? (i := 24) rfl))) (by decide) (t := .int) (t' := .int) (by decide) (by decide)))
  have F44 := F37.other W39 (Or.inr (slot_ne (Or.inr (hw _ (List.mem_of_getElem? (i := 28) rfl))) (Or.inr (hw _ (List.mem_of_getElem? (i := 24) rfl))) (by decide) (t := .long) (t' := .int) (by decide) (by decide)))
  have N39 := Fr.snoc X39 N31 g_a1
  have Z39 : n0 ≤ h39.size := Nat.le_trans Z31 (Keep.of_wr W39).1
  have K39 := K31.wr W39 (Or.inl (List.mem_of_getElem? (i := 0) rfl))
  have pre45 : ∀ t, SS p e below m T39 34 #[rv a1, iv p2, iv p3, iv p4, iv p5, iv p6, iv p7, .val (.long q8), .second] [(.int p7), (.ref a1)] t → B t := fun t kk => pre38 t (by
    refine st39 _ ?_
    show SS p e below m T39 31 #[rv a1, iv p2, iv p3, iv p4, iv p5, iv p6, iv p7, .val (.long q8), .second] [] _
    refine XS.aloadN X39.here hx rfl (hb hby d1_31) rfl rfl ?_
    show SS p e below m T39 32 #[rv a1, iv p2, iv p3, iv p4, iv p5, iv p6, iv p7, .val (.long q8), .second] [(.ref a1)] _
    refine XS.iload X39.here hx rfl (hb hby d1_32) rfl ?_
    show SS p e below m T39 34 #[rv a1, iv p2, iv p3, iv p4, iv p5, iv p6, iv p7, .val (.long q8), .second] [(.int p7), (.ref a1)] _
    exact kk)
  obtain ⟨T46, h46, X46, e46, W46, st46⟩ := putF X39 hx hZ hown (host := "") (Or.inl (hw _ (List.mem_of_getElem? (i := 25) rfl))) Via.refl e39 F43 F40 (Or.inr ⟨(hw _ (List.mem_of_getElem? (i := 26) rfl)), rfl, hnm⟩) (hw _ (List.mem_of_getElem? (i := 2) rfl)) (ty := .int) (by decide) rfl rfl (g := (mkF m 34 #[rv a1, iv p2, iv p3, iv p4, iv p5, iv p6, iv p7, .val (.long q8), .second] [(.int p7), (.ref a1)])) rfl rfl (hb hby d1_34)
  have F47 := F40.wr W46
  have F48 := F41.other W46 (Or.inr (slot_ne (Or.inr (hw _ (List.mem_of_getElem? (i := 20) rfl))) (Or.inr (hw _ (List.mem_of_getElem? (i := 26) rfl))) (by decide) (t := .int) (t' := .int) (by decide) (by decide)))
  have F49 := F43.same W46
  have F50 := F44.other W46 (Or.inr (slot_ne (Or.inr (hw _ (List.mem_of_getElem? (i := 28) rfl))) (Or.inr (hw _ (List.mem_of_getElem? (i := 26) rfl))) (by decide) (t := .long) (t' := .int) (by decide) (by decide)))
  have N46 := Fr.snoc X46 N39 g_a1
  have Z46 : n0 ≤ h46.size := Nat.le_trans Z39 (Keep.of_wr W46).1
  have K46 := K39.wr W46 (Or.inl (List.mem_of_getElem? (i := 0) rfl))
  have pre51 : ∀ t, SS p e below m T46 40 #[rv a1, iv p2, iv p3, iv p4, iv p5, iv p6, iv p7, .val (.long q8), .second] [(.long q8), (.ref a1)] t → B t := fun t kk => pre45 t (by
    refine st46 _ ?_
    show SS p e below m T46 37 #[rv a1, iv p2, iv p3, iv p4, iv p5, iv p6, iv p7, .val (.long q8), .second] [] _
    refine XS.aloadN X46.here hx rfl (hb hby d1_37) rfl rfl ?_
    show SS p e below m T46 38 #[rv a1, iv p2, iv p3, iv p4, iv p5, iv p6, iv p7, .val (.long q8), .second] [(.ref a1)] _
    refine XS.lload X46.here hx rfl (hb hby d1_38) rfl ?_
    show SS p e below m T46 40 #[rv a1, iv p2, iv p3, iv p4, iv p5, iv p6, iv p7, .val (.long q8), .second] [(.long q8), (.ref a1)] _
    exact kk)
  obtain ⟨T52, h52, X52, e52, W52, st52⟩ := putF X46 hx hZ hown (host := "") (Or.inl (hw _ (List.mem_of_getElem? (i := 27) rfl))) Via.refl e46 F50 F47 (Or.inr ⟨(hw _ (List.mem_of_getElem? (i := 28) rfl)), rfl, hnm⟩) (hw _ (List.mem_of_getElem? (i := 2) rfl)) (ty := .long) (by decide) rfl rfl (g := (mkF m 40 #[rv a1, iv p2, iv p3, iv p4, iv p5, iv p6, iv p7, .val (.long q8), .second] [(.long q8), (.ref a1)])) rfl rfl (hb hby d1_40)
  have F53 := F47.wr W52
  have F54 := F48.other W52 (Or.inr (slot_ne (Or.inr (hw _ (List.mem_of_getElem? (i := 20) rfl))) (Or.inr (hw _ (List.mem_of_getElem? (i := 28) rfl))) (by decide) (t := .int) (t' := .long) (by decide) (by decide)))
  have F55 := F50.same W52
  have N52 := Fr.snoc X52 N46 g_a1
  have Z52 : n0 ≤ h52.size := Nat.le_trans Z46 (Keep.of_wr W52).1
  have K52 := K46.wr W52 (Or.inl (List.mem_of_getElem? (i := 0) rfl))
  have pre56 : ∀ t, SS p e below m T52 43 #[rv a1, iv p2, iv p3, iv p4, iv p5, iv p6, iv p7, .val (.long q8), .second] [] t → B t := fun t kk => pre51 t (by
    refine st52 _ ?_
    show SS p e below m T52 43 #[rv a1, iv p2, iv p3, iv p4, iv p5, iv p6, iv p7, .val (.long q8), .second] [] _
    exact kk)
  obtain ⟨fs, hr, hrun, hended, hW, hsame⟩ := X52.leave (v := none) (fun _ => rfl)
  refine ⟨_, _, hB _ (pre56 _ ?_), hrun, hended, _, _, rfl, ?_, ⟨_, rfl⟩, hW, hsame.mono (by decide) (by decide)⟩
  · exact X52.returnOut hx Bd.returns (hb hby d1_43) hr
  · show QN Z a1 p4 h0 n0 _ T52.heap _
    rw [e52]
    exact ⟨rfl, N52, K52, F53, F54⟩
theorem d4_0 : decode prog_8_method_5_code 0 = .ok (.aload_n 0, 1) := by decide +kernel
theorem d4_1 : decode prog_8_method_5_code 1 = .ok (.getfield 16, 3) := by decide +kernel
theorem d4_4 : decode prog_8_method_5_code 4 = .ok (.ldc 143, 2) := by decide +kernel
theorem d4_6 : decode prog_8_method_5_code 6 = .ok (.iand, 1) := by decide +kernel
theorem d4_7 : decode prog_8_method_5_code 7 = .ok (.ifCond .ne 7, 3) := by decide +kernel
theorem d4_10 : decode prog_8_method_5_code 10 = .ok (.iconst 1, 1) := by decide +kernel
theorem d4_11 : decode prog_8_method_5_code 11 = .ok (.goto 4, 3) := by decide +kernel
theorem d4_14 : decode prog_8_method_5_code 14 = .ok (.iconst 0, 1) := by decide +kernel
theorem d4_15 : decode prog_8_method_5_code 15 = .ok (.ireturn, 1) := by decide +kernel
theorem pn_4 : plainName "com/example/reston/reston/codec/Envelope" = true := by first | (simp [plainName, overriddenIn]; done) | decide +kernel
theorem ef_4 (m : MethodId) (a1 : Addr) : entryFrame m #[(.ref a1)] 1 = mkF m 0 #[rv a1] [] := by first | (simp [entryFrame, mkF, argsToLocals, Value.category]; done) | rfl
def f4  (fl : Int32) : Int32 := (if (fl &&& (49152 : Int32)) = (0 : Int32) then (1 : Int32) else (0 : Int32))
set_option maxRecDepth 65536 in
set_option maxHeartbeats 40000000 in
theorem rm4 (l : Launch) (Z : State) (a0 : Array Value) (hw : ∀ d ∈ tables_1, d.before a0 Z = true) (ws : List Jvm.Cond) (a1 : Addr) (fl : Int32) (h0 : Heap) (n0 : Nat) (Z0 : n0 ≤ h0.size) (F_flags : Fld Z h0 a1 "com/example/reston/reston/codec/Envelope" "flags" "I" (.int fl)) :
    MetFree l (⟨"com/example/reston/reston/codec/Envelope", "isPlain", "()Z"⟩ : MethodName) (head1 (Jvm.Cond.code (⟨"com/example/reston/reston/codec/Envelope", "isPlain", "()Z"⟩ : MethodName) prog_8_method_5_code 1 (some .boolean) :: ws) ({ frames := 0, cells := 0, slots := 0, locals := 0 } : Room)) (fun a U => a = #[(.ref a1)] ∧ Z.Warmed39 U.vm ∧ U.heap = h0) (fun _ _ _ _ _ => True) (fun _ U o U' => ∃ v L, o = .returned v ∧ QI (f4 fl) h0 n0 v U'.heap L ∧ FrameEnd U o U' L ({ frames := 0, cells := 0, slots := 0, locals := 0 } : Room).cells ({ frames := 0, cells := 0, slots := 0, locals := 0 } : Room).slots) := by
  refine MetFree.of_bodySF (plainFor_of_name pn_4) hisR ?_
  intro p e s m args below meth c s₁ Bd hml0 hP hK
  obtain ⟨rfl, hZ, hh⟩ := hP
  have hx := Bd.exec
  have hby := Bd.bytes
  have hml : c.maxLocals = 1 := hml0
  have hown : s.vm.findClass "com/example/reston/reston/codec/Envelope" = some m.cls := findClass_of_methodNamed Bd.named
  have hnm := (name_of_methodNamed Bd.named Bd.method).1
  have X0 : Stand p l e ({ frames := 0, cells := 0, slots := 0, locals := 0 } : Room) s m #[(.ref a1)] below meth c s₁ [] 0 0 := Stand.of_body Bd
  have e0 : s₁.heap = h0 := by rw [← hh, Bd.state]; rfl
  have N0 := Fr.nil n0
  obtain ⟨B, hB, pre0⟩ : ∃ B : State → Prop, (∀ t, B t → Steps p.tables e below (s₁.setTop (entryFrame m #[(.ref a1)] 1)) t) ∧ ∀ t, SS p e below m s₁ 0 #[rv a1] [] t → B t := ⟨_, fun _ q => q, fun t kk => castTop (ef_4 m a1) kk⟩
  have pre1 : ∀ t, SS p e below m s₁ 1 #[rv a1] [(.ref a1)] t → B t := fun t kk => pre0 t (by
    show SS p e below m s₁ 0 #[rv a1] [] _
    refine XS.aloadN X0.here hx rfl (hb hby d4_0) rfl rfl ?_
    show SS p e below m s₁ 1 #[rv a1] [(.ref a1)] _
    exact kk)
  obtain ⟨T2, X2, e2, st2⟩ := getF X0 hx hZ hown (host := "") (Or.inl (hw _ (List.mem_of_getElem? (i := 19) rfl))) Via.refl e0 F_flags (g := (mkF m 1 #[rv a1] [(.ref a1)])) rfl rfl (hb hby d4_1)
  have pre3 : ∀ t, SS p e below m T2 7 #[rv a1] [(.int (fl &&& (49152 : Int32)))] t → B t := fun t kk => pre1 t (by
    refine st2 _ ?_
    show SS p e below m T2 4 #[rv a1] [(.int fl)] _
    refine X2.ldcInt hx hown (mvT hZ (hw _ (List.mem_of_getElem? (i := 34) rfl))) (g := (mkF m 4 #[rv a1] [(.int fl)])) rfl (hb hby d4_4) _ ?_
    show SS p e below m T2 6 #[rv a1] [(.int (49152 : Int32)), (.int fl)] _
    refine XS.iand X2.here hx rfl (hb hby d4_6) rfl ?_
    show SS p e below m T2 7 #[rv a1] [(.int (fl &&& (49152 : Int32)))] _
    exact kk)
  by_cases hc4 : (fl &&& (49152 : Int32)) = (0 : Int32)
  · have pre5 : ∀ t, SS p e below m T2 15 #[rv a1] [(.int (1 : Int32))] t → B t := fun t kk => pre3 t (by
      refine XS.ifNo X2.here hx rfl (hb hby d4_7) rfl ((if0 _ _).trans (teq hc4).2) ?_
      show SS p e below m T2 10 #[rv a1] [] _
      refine XS.iconst X2.here hx rfl (hb hby d4_10) ?_
      show SS p e below m T2 11 #[rv a1] [(.int (1 : Int32))] _
      refine XS.goto X2.here hx rfl (pc0 := 11) (pc' := 15) rfl (hb hby d4_11) (by decide) (by decide) ?_
      show SS p e below m T2 15 #[rv a1] [(.int (1 : Int32))] _
      exact kk)
    obtain ⟨fs, hr, hrun, hended, hW, hsame⟩ := X2.leave (v := some (.int (1 : Int32))) (fun h => by rw [Bd.returns] at h; cases h)
    refine ⟨_, _, hB _ (pre5 _ ?_), hrun, hended, _, _, rfl, ?_, ⟨_, rfl⟩, hW, hsame.mono (by decide) (by decide)⟩
    · exact retN X2 hx (t := .boolean) Bd.returns (by simp) (hb hby d4_15) hr
    · exact ⟨by show _ = some (Value.int (f4 fl)); rw [f4, if_pos hc4], N0, e2⟩
  · have pre6 : ∀ t, SS p e below m T2 15 #[rv a1] [(.int (0 : Int32))] t → B t := fun t kk => pre3 t (by
      refine XS.ifYes X2.here hx rfl (pc0 := 7) (pc' := 14) rfl (hb hby d4_7) rfl ((if0 _ _).trans (feq hc4).2) (by decide) (by decide) ?_
      show SS p e below m T2 14 #[rv a1] [] _
      refine XS.iconst X2.here hx rfl (hb hby d4_14) ?_
      show SS p e below m T2 15 #[rv a1] [(.int (0 : Int32))] _
      exact kk)
    obtain ⟨fs, hr, hrun, hended, hW, hsame⟩ := X2.leave (v := some (.int (0 : Int32))) (fun h => by rw [Bd.returns] at h; cases h)
    refine ⟨_, _, hB _ (pre6 _ ?_), hrun, hended, _, _, rfl, ?_, ⟨_, rfl⟩, hW, hsame.mono (by decide) (by decide)⟩
    · exact retN X2 hx (t := .boolean) Bd.returns (by simp) (hb hby d4_15) hr
    · exact ⟨by show _ = some (Value.int (f4 fl)); rw [f4, if_neg hc4], N0, e2⟩
theorem own_dist (a b c : Int32) : (a ||| b) &&& c = (a &&& c) ||| (b &&& c) := by
  apply Int32.toBitVec_inj.1
  rw [Int32.toBitVec_or, Int32.toBitVec_and, Int32.toBitVec_and, Int32.toBitVec_and, Int32.toBitVec_or, BitVec.and_or_distrib_right]
theorem own_low (x : Int32) : (x &&& (16383 : Int32)) &&& (49152 : Int32) = 0 := by
  rw [Int32.and_assoc, show ((16383 : Int32) &&& (49152 : Int32)) = 0 from by decide, Int32.and_zero]
theorem pn_0 : plainName "com/example/reston/reston/codec/EnvelopeIsPlainPinLaw" = true := by first | (simp [plainName, overriddenIn]; done) | decide +kernel
theorem pd_1 : parseMethodDescriptor "(IIIIIIJ)V" = some ⟨[.int, .int, .int, .int, .int, .int, .long], none⟩ := by decide +kernel
theorem pd_2 : parseMethodDescriptor "()Z" = some ⟨[], some .boolean⟩ := by decide +kernel
theorem ef_0 (m : MethodId) (p1 : Int32) (p2 : Int32) (p3 : Int32) (p4 : Int32) (p5 : Int32) (q6 : Int64) : entryFrame m #[(.int p1), (.int p2), (.int p3), (.int p4), (.int p5), (.long q6)] maxLocals = mkF m 0 #[iv p1, iv p2, iv p3, iv p4, iv p5, .val (.long q6), .second, .unset, .unset, .unset, .unset, .unset, .unset] [] := by first | (simp [entryFrame, mkF, argsToLocals, Value.category, maxLocals]; done) | rfl
theorem own_l0_0 (p1 : Int32)   : (f4 (p1 &&& (16383 : Int32))) = (1 : Int32) := by
  unfold f4
  simp only [own_dist, own_low]
  decide
theorem own_l0_1 (p1 : Int32)   : (f4 ((p1 &&& (16383 : Int32)) ||| (16384 : Int32))) = (0 : Int32) := by
  unfold f4
  simp only [own_dist, own_low]
  decide
theorem own_l0_2 (p1 : Int32)   : (f4 ((p1 &&& (16383 : Int32)) ||| (32768 : Int32))) = (0 : Int32) := by
  unfold f4
  simp only [own_dist, own_low]
  decide
theorem own_l0_3 (p1 : Int32)   : (f4 (((p1 &&& (16383 : Int32)) ||| (32768 : Int32)) ||| (16384 : Int32))) = (0 : Int32) := by
  unfold f4
  simp only [own_dist, own_low]
  decide
set_option maxRecDepth 65536 in
set_option maxHeartbeats 40000000 in
theorem rm0 (l : Launch) (Z : State) (a0 : Array Value) (hw : ∀ d ∈ tables_1, d.before a0 Z = true) (ws : List Jvm.Cond) (p1 : Int32) (p2 : Int32) (p3 : Int32) (p4 : Int32) (p5 : Int32) (q6 : Int64)  (h0 : Heap) (n0 : Nat) (Z0 : n0 ≤ h0.size)  :
    MetFree l x (head1 (Jvm.Cond.code x code maxLocals ret :: ws) room_1) (fun a U => a = #[(.int p1), (.int p2), (.int p3), (.int p4), (.int p5), (.long q6)] ∧ Z.Warmed39 U.vm ∧ U.heap = h0) (fun _ _ _ _ _ => True) (fun _ U o U' => ∃ v L, o = .returned v ∧ QE n0 v U'.heap L ∧ FrameEnd U o U' L room_1.cells room_1.slots) := by
  refine MetFree.of_bodySF (plainFor_of_name pn_0) hisR ?_
  intro p e s m args below meth c s₁ Bd hml0 hP hK
  obtain ⟨rfl, hZ, hh⟩ := hP
  have hx := Bd.exec
  have hby := Bd.bytes
  have hml : c.maxLocals = 13 := hml0
  have hown : s.vm.findClass "com/example/reston/reston/codec/EnvelopeIsPlainPinLaw" = some m.cls := findClass_of_methodNamed Bd.named
  have hnm := (name_of_methodNamed Bd.named Bd.method).1
  have X0 : Stand p l e room_1 s m #[(.int p1), (.int p2), (.int p3), (.int p4), (.int p5), (.long q6)] below meth c s₁ [] 0 0 := Stand.of_body Bd
  have e0 : s₁.heap = h0 := by rw [← hh, Bd.state]; rfl
  have N0 := Fr.nil n0
  obtain ⟨B, hB, pre0⟩ : ∃ B : State → Prop, (∀ t, B t → Steps p.tables e below (s₁.setTop (entryFrame m #[(.int p1), (.int p2), (.int p3), (.int p4), (.int p5), (.long q6)] maxLocals)) t) ∧ ∀ t, SS p e below m s₁ 0 #[iv p1, iv p2, iv p3, iv p4, iv p5, .val (.long q6), .second, .unset, .unset, .unset, .unset, .unset, .unset] [] t → B t := ⟨_, fun _ q => q, fun t kk => castTop (ef_0 m p1 p2 p3 p4 p5 q6) kk⟩
  have pre1 : ∀ t, SS p e below m s₁ 10 #[iv p1, iv p2, iv p3, iv p4, iv p5, .val (.long q6), .second, iv (p1 &&& (16383 : Int32)), .unset, .unset, .unset, .unset, .unset] [(.int (p2 &&& (1 : Int32)))] t → B t := fun t kk => pre0 t (by
    show SS p e below m s₁ 0 #[iv p1, iv p2, iv p3, iv p4, iv p5, .val (.long q6), .second, .unset, .unset, .unset, .unset, .unset, .unset] [] _
    refine XS.iloadN X0.here hx rfl (hb hby at_0) rfl ?_
    show SS p e below m s₁ 1 #[iv p1, iv p2, iv p3, iv p4, iv p5, .val (.long q6), .second, .unset, .unset, .unset, .unset, .unset, .unset] [(.int p1)] _
    refine XS.sipush X0.here hx rfl (hb hby at_1) ?_
    show SS p e below m s₁ 4 #[iv p1, iv p2, iv p3, iv p4, iv p5, .val (.long q6), .second, .unset, .unset, .unset, .unset, .unset, .unset] [(.int (16383 : Int32)), (.int p1)] _
    refine XS.iand X0.here hx rfl (hb hby at_4) rfl ?_
    show SS p e below m s₁ 5 #[iv p1, iv p2, iv p3, iv p4, iv p5, .val (.long q6), .second, .unset, .unset, .unset, .unset, .unset, .unset] [(.int (p1 &&& (16383 : Int32)))] _
    refine XS.istore X0.here hx rfl (hb hby at_5) rfl (l' := #[iv p1, iv p2, iv p3, iv p4, iv p5, .val (.long q6), .second, iv (p1 &&& (16383 : Int32)), .unset, .unset, .unset, .unset, .unset]) rfl ?_
    show SS p e below m s₁ 7 #[iv p1, iv p2, iv p3, iv p4, iv p5, .val (.long q6), .second, iv (p1 &&& (16383 : Int32)), .unset, .unset, .unset, .unset, .unset] [] _
    refine XS.iloadN X0.here hx rfl (hb hby at_7) rfl ?_
    show SS p e below m s₁ 8 #[iv p1, iv p2, iv p3, iv p4, iv p5, .val (.long q6), .second, iv (p1 &&& (16383 : Int32)), .unset, .unset, .unset, .unset, .unset] [(.int p2)] _
    refine XS.iconst X0.here hx rfl (hb hby at_8) ?_
    show SS p e below m s₁ 9 #[iv p1, iv p2, iv p3, iv p4, iv p5, .val (.long q6), .second, iv (p1 &&& (16383 : Int32)), .unset, .unset, .unset, .unset, .unset] [(.int (1 : Int32)), (.int p2)] _
    refine XS.iand X0.here hx rfl (hb hby at_9) rfl ?_
    show SS p e below m s₁ 10 #[iv p1, iv p2, iv p3, iv p4, iv p5, .val (.long q6), .second, iv (p1 &&& (16383 : Int32)), .unset, .unset, .unset, .unset, .unset] [(.int (p2 &&& (1 : Int32)))] _
    exact kk)
  by_cases hc2 : (p2 &&& (1 : Int32)) = (0 : Int32)
  · have pre3 : ∀ t, SS p e below m s₁ 23 #[iv p1, iv p2, iv p3, iv p4, iv p5, .val (.long q6), .second, iv (p1 &&& (16383 : Int32)), iv (0 : Int32), .unset, .unset, .unset, .unset] [(.int (p2 &&& (2 : Int32)))] t → B t := fun t kk => pre1 t (by
      refine XS.ifYes X0.here hx rfl (pc0 := 10) (pc' := 17) rfl (hb hby at_10) rfl ((if0 _ _).trans (teq hc2).1) (by decide) (by decide) ?_
      show SS p e below m s₁ 17 #[iv p1, iv p2, iv p3, iv p4, iv p5, .val (.long q6), .second, iv (p1 &&& (16383 : Int32)), .unset, .unset, .unset, .unset, .unset] [] _
      refine XS.iconst X0.here hx rfl (hb hby at_17) ?_
      show SS p e below m s₁ 18 #[iv p1, iv p2, iv p3, iv p4, iv p5, .val (.long q6), .second, iv (p1 &&& (16383 : Int32)), .unset, .unset, .unset, .unset, .unset] [(.int (0 : Int32))] _
      refine XS.istore X0.here hx rfl (hb hby at_18) rfl (l' := #[iv p1, iv p2, iv p3, iv p4, iv p5, .val (.long q6), .second, iv (p1 &&& (16383 : Int32)), iv (0 : Int32), .unset, .unset, .unset, .unset]) rfl ?_
      show SS p e below m s₁ 20 #[iv p1, iv p2, iv p3, iv p4, iv p5, .val (.long q6), .second, iv (p1 &&& (16383 : Int32)), iv (0 : Int32), .unset, .unset, .unset, .unset] [] _
      refine XS.iloadN X0.here hx rfl (hb hby at_20) rfl ?_
      show SS p e below m s₁ 21 #[iv p1, iv p2, iv p3, iv p4, iv p5, .val (.long q6), .second, iv (p1 &&& (16383 : Int32)), iv (0 : Int32), .unset, .unset, .unset, .unset] [(.int p2)] _
      refine XS.iconst X0.here hx rfl (hb hby at_21) ?_
      show SS p e below m s₁ 22 #[iv p1, iv p2, iv p3, iv p4, iv p5, .val (.long q6), .second, iv (p1 &&& (16383 : Int32)), iv (0 : Int32), .unset, .unset, .unset, .unset] [(.int (2 : Int32)), (.int p2)] _
      refine XS.iand X0.here hx rfl (hb hby at_22) rfl ?_
      show SS p e below m s₁ 23 #[iv p1, iv p2, iv p3, iv p4, iv p5, .val (.long q6), .second, iv (p1 &&& (16383 : Int32)), iv (0 : Int32), .unset, .unset, .unset, .unset] [(.int (p2 &&& (2 : Int32)))] _
      exact kk)
    by_cases hc4 : (p2 &&& (2 : Int32)) = (0 : Int32)
    · have pre5 : ∀ t, SS p e below m s₁ 62 #[iv p1, iv p2, iv p3, iv p4, iv p5, .val (.long q6), .second, iv (p1 &&& (16383 : Int32)), iv (0 : Int32), iv (0 : Int32), iv (p1 &&& (16383 : Int32)), .unset, .unset] [] t → B t := fun t kk => pre3 t (by
        refine XS.ifYes X0.here hx rfl (pc0 := 23) (pc' := 30) rfl (hb hby at_23) rfl ((if0 _ _).trans (teq hc4).1) (by decide) (by decide) ?_
        show SS p e below m s₁ 30 #[iv p1, iv p2, iv p3, iv p4, iv p5, .val (.long q6), .second, iv (p1 &&& (16383 : Int32)), iv (0 : Int32), .unset, .unset, .unset, .unset] [] _
        refine XS.iconst X0.here hx rfl (hb hby at_30) ?_
        show SS p e below m s₁ 31 #[iv p1, iv p2, iv p3, iv p4, iv p5, .val (.long q6), .second, iv (p1 &&& (16383 : Int32)), iv (0 : Int32), .unset, .unset, .unset, .unset] [(.int (0 : Int32))] _
        refine XS.istore X0.here hx rfl (hb hby at_31) rfl (l' := #[iv p1, iv p2, iv p3, iv p4, iv p5, .val (.long q6), .second, iv (p1 &&& (16383 : Int32)), iv (0 : Int32), iv (0 : Int32), .unset, .unset, .unset]) rfl ?_
        show SS p e below m s₁ 33 #[iv p1, iv p2, iv p3, iv p4, iv p5, .val (.long q6), .second, iv (p1 &&& (16383 : Int32)), iv (0 : Int32), iv (0 : Int32), .unset, .unset, .unset] [] _
        refine XS.iload X0.here hx rfl (hb hby at_33) rfl ?_
        show SS p e below m s₁ 35 #[iv p1, iv p2, iv p3, iv p4, iv p5, .val (.long q6), .second, iv (p1 &&& (16383 : Int32)), iv (0 : Int32), iv (0 : Int32), .unset, .unset, .unset] [(.int (p1 &&& (16383 : Int32)))] _
        refine XS.istore X0.here hx rfl (hb hby at_35) rfl (l' := #[iv p1, iv p2, iv p3, iv p4, iv p5, .val (.long q6), .second, iv (p1 &&& (16383 : Int32)), iv (0 : Int32), iv (0 : Int32), iv (p1 &&& (16383 : Int32)), .unset, .unset]) rfl ?_
        show SS p e below m s₁ 37 #[iv p1, iv p2, iv p3, iv p4, iv p5, .val (.long q6), .second, iv (p1 &&& (16383 : Int32)), iv (0 : Int32), iv (0 : Int32), iv (p1 &&& (16383 : Int32)), .unset, .unset] [] _
        refine XS.iload X0.here hx rfl (hb hby at_37) rfl ?_
        show SS p e below m s₁ 39 #[iv p1, iv p2, iv p3, iv p4, iv p5, .val (.long q6), .second, iv (p1 &&& (16383 : Int32)), iv (0 : Int32), iv (0 : Int32), iv (p1 &&& (16383 : Int32)), .unset, .unset] [(.int (0 : Int32))] _
        refine XS.ifYes X0.here hx rfl (pc0 := 39) (pc' := 49) rfl (hb hby at_39) rfl ((if0 _ _).trans (teq (by decide : ((0 : Int32) = (0 : Int32)))).1) (by decide) (by decide) ?_
        show SS p e below m s₁ 49 #[iv p1, iv p2, iv p3, iv p4, iv p5, .val (.long q6), .second, iv (p1 &&& (16383 : Int32)), iv (0 : Int32), iv (0 : Int32), iv (p1 &&& (16383 : Int32)), .unset, .unset] [] _
        refine XS.iload X0.here hx rfl (hb hby at_49) rfl ?_
        show SS p e below m s₁ 51 #[iv p1, iv p2, iv p3, iv p4, iv p5, .val (.long q6), .second, iv (p1 &&& (16383 : Int32)), iv (0 : Int32), iv (0 : Int32), iv (p1 &&& (16383 : Int32)), .unset, .unset] [(.int (0 : Int32))] _
        refine XS.ifYes X0.here hx rfl (pc0 := 51) (pc' := 62) rfl (hb hby at_51) rfl ((if0 _ _).trans (teq (by decide : ((0 : Int32) = (0 : Int32)))).1) (by decide) (by decide) ?_
        show SS p e below m s₁ 62 #[iv p1, iv p2, iv p3, iv p4, iv p5, .val (.long q6), .second, iv (p1 &&& (16383 : Int32)), iv (0 : Int32), iv (0 : Int32), iv (p1 &&& (16383 : Int32)), .unset, .unset] [] _
        exact kk)
      obtain ⟨T6, h6, X6, e6, E6, A6, D6, -, st6⟩ := newO X0 hx hZ hown (hw _ (List.mem_of_getElem? (i := 1) rfl)) (hw _ (List.mem_of_getElem? (i := 2) rfl)) (hw _ (List.mem_of_getElem? (i := 3) rfl)) e0 (g := (mkF m 62 #[iv p1, iv p2, iv p3, iv p4, iv p5, .val (.long q6), .second, iv (p1 &&& (16383 : Int32)), iv (0 : Int32), iv (0 : Int32), iv (p1 &&& (16383 : Int32)), .unset, .unset] [])) rfl (hb hby at_62) (by decide) (by decide)
      obtain ⟨b6, g6⟩ : ∃ z, z = h0.size := ⟨_, rfl⟩
      rw [← g6] at A6 D6 st6
      have g_b6 : n0 ≤ b6 := Nat.le_trans Z0 (Nat.le_of_eq g6.symm)
      have Z6 : n0 ≤ h6.size := Nat.le_trans Z0 E6.1
      have F_majorVersion_b6 : Fld Z h6 b6 "com/example/reston/reston/codec/Envelope" "majorVersion" "I" (.int (0 : Int32)) := D6 (Or.inr (hw _ (List.mem_of_getElem? (i := 16) rfl))) (ty := .int) (by decide)
      have F_minorVersion_b6 : Fld Z h6 b6 "com/example/reston/reston/codec/Envelope" "minorVersion" "I" (.int (0 : Int32)) := D6 (Or.inr (hw _ (List.mem_of_getElem? (i := 18) rfl))) (ty := .int) (by decide)
      have F_flags_b6 : Fld Z h6 b6 "com/example/reston/reston/codec/Envelope" "flags" "I" (.int (0 : Int32)) := D6 (Or.inr (hw _ (List.mem_of_getElem? (i := 20) rfl))) (ty := .int) (by decide)
      have F_sessionId_b6 : Fld Z h6 b6 "com/example/reston/reston/codec/Envelope" "sessionId" "I" (.int (0 : Int32)) := D6 (Or.inr (hw _ (List.mem_of_getElem? (i := 22) rfl))) (ty := .int) (by decide)
      have F_requestId_b6 : Fld Z h6 b6 "com/example/reston/reston/codec/Envelope" "requestId" "I" (.int (0 : Int32)) := D6 (Or.inr (hw _ (List.mem_of_getElem? (i := 24) rfl))) (ty := .int) (by decide)
      have F_sequenceNumber_b6 : Fld Z h6 b6 "com/example/reston/reston/codec/Envelope" "sequenceNumber" "I" (.int (0 : Int32)) := D6 (Or.inr (hw _ (List.mem_of_getElem? (i := 26) rfl))) (ty := .int) (by decide)
      have F_messageLength_b6 : Fld Z h6 b6 "com/example/reston/reston/codec/Envelope" "messageLength" "J" (.long (0 : Int64)) := D6 (Or.inr (hw _ (List.mem_of_getElem? (i := 28) rfl))) (ty := .long) (by decide)
      have pre7 : ∀ t, SS p e below m T6 81 #[iv p1, iv p2, iv p3, iv p4, iv p5, .val (.long q6), .second, iv (p1 &&& (16383 : Int32)), iv (0 : Int32), iv (0 : Int32), iv (p1 &&& (16383 : Int32)), .unset, .unset] [(.long q6), (.int (p4 ^^^ p5)), (.int (p3 ^^^ p4)), (.int p5), (.int (p1 &&& (16383 : Int32))), (.int p4), (.int p3), (.ref b6), (.ref b6)] t → B t := fun t kk => pre5 t (by
        refine st6 _ ?_
        show SS p e below m T6 65 #[iv p1, iv p2, iv p3, iv p4, iv p5, .val (.long q6), .second, iv (p1 &&& (16383 : Int32)), iv (0 : Int32), iv (0 : Int32), iv (p1 &&& (16383 : Int32)), .unset, .unset] [(.ref b6)] _
        refine XS.dup X6.here hx rfl (hb hby at_65) rfl rfl ?_
        show SS p e below m T6 66 #[iv p1, iv p2, iv p3, iv p4, iv p5, .val (.long q6), .second, iv (p1 &&& (16383 : Int32)), iv (0 : Int32), iv (0 : Int32), iv (p1 &&& (16383 : Int32)), .unset, .unset] [(.ref b6), (.ref b6)] _
        refine XS.iloadN X6.here hx rfl (hb hby at_66) rfl ?_
        show SS p e below m T6 67 #[iv p1, iv p2, iv p3, iv p4, iv p5, .val (.long q6), .second, iv (p1 &&& (16383 : Int32)), iv (0 : Int32), iv (0 : Int32), iv (p1 &&& (16383 : Int32)), .unset, .unset] [(.int p3), (.ref b6), (.ref b6)] _
        refine XS.iloadN X6.here hx rfl (hb hby at_67) rfl ?_
        show SS p e below m T6 68 #[iv p1, iv p2, iv p3, iv p4, iv p5, .val (.long q6), .second, iv (p1 &&& (16383 : Int32)), iv (0 : Int32), iv (0 : Int32), iv (p1 &&& (16383 : Int32)), .unset, .unset] [(.int p4), (.int p3), (.ref b6), (.ref b6)] _
        refine XS.iload X6.here hx rfl (hb hby at_68) rfl ?_
        show SS p e below m T6 70 #[iv p1, iv p2, iv p3, iv p4, iv p5, .val (.long q6), .second, iv (p1 &&& (16383 : Int32)), iv (0 : Int32), iv (0 : Int32), iv (p1 &&& (16383 : Int32)), .unset, .unset] [(.int (p1 &&& (16383 : Int32))), (.int p4), (.int p3), (.ref b6), (.ref b6)] _
        refine XS.iload X6.here hx rfl (hb hby at_70) rfl ?_
        show SS p e below m T6 72 #[iv p1, iv p2, iv p3, iv p4, iv p5, .val (.long q6), .second, iv (p1 &&& (16383 : Int32)), iv (0 : Int32), iv (0 : Int32), iv (p1 &&& (16383 : Int32)), .unset, .unset] [(.int p5), (.int (p1 &&& (16383 : Int32))), (.int p4), (.int p3), (.ref b6), (.ref b6)] _
        refine XS.iloadN X6.here hx rfl (hb hby at_72) rfl ?_
        show SS p e below m T6 73 #[iv p1, iv p2, iv p3, iv p4, iv p5, .val (.long q6), .second, iv (p1 &&& (16383 : Int32)), iv (0 : Int32), iv (0 : Int32), iv (p1 &&& (16383 : Int32)), .unset, .unset] [(.int p3), (.int p5), (.int (p1 &&& (16383 : Int32))), (.int p4), (.int p3), (.ref b6), (.ref b6)] _
        refine XS.iloadN X6.here hx rfl (hb hby at_73) rfl ?_
        show SS p e below m T6 74 #[iv p1, iv p2, iv p3, iv p4, iv p5, .val (.long q6), .second, iv (p1 &&& (16383 : Int32)), iv (0 : Int32), iv (0 : Int32), iv (p1 &&& (16383 : Int32)), .unset, .unset] [(.int p4), (.int p3), (.int p5), (.int (p1 &&& (16383 : Int32))), (.int p4), (.int p3), (.ref b6), (.ref b6)] _
        refine XS.ixor X6.here hx rfl (hb hby at_74) rfl ?_
        show SS p e below m T6 75 #[iv p1, iv p2, iv p3, iv p4, iv p5, .val (.long q6), .second, iv (p1 &&& (16383 : Int32)), iv (0 : Int32), iv (0 : Int32), iv (p1 &&& (16383 : Int32)), .unset, .unset] [(.int (p3 ^^^ p4)), (.int p5), (.int (p1 &&& (16383 : Int32))), (.int p4), (.int p3), (.ref b6), (.ref b6)] _
        refine XS.iloadN X6.here hx rfl (hb hby at_75) rfl ?_
        show SS p e below m T6 76 #[iv p1, iv p2, iv p3, iv p4, iv p5, .val (.long q6), .second, iv (p1 &&& (16383 : Int32)), iv (0 : Int32), iv (0 : Int32), iv (p1 &&& (16383 : Int32)), .unset, .unset] [(.int p4), (.int (p3 ^^^ p4)), (.int p5), (.int (p1 &&& (16383 : Int32))), (.int p4), (.int p3), (.ref b6), (.ref b6)] _
        refine XS.iload X6.here hx rfl (hb hby at_76) rfl ?_
        show SS p e below m T6 78 #[iv p1, iv p2, iv p3, iv p4, iv p5, .val (.long q6), .second, iv (p1 &&& (16383 : Int32)), iv (0 : Int32), iv (0 : Int32), iv (p1 &&& (16383 : Int32)), .unset, .unset] [(.int p5), (.int p4), (.int (p3 ^^^ p4)), (.int p5), (.int (p1 &&& (16383 : Int32))), (.int p4), (.int p3), (.ref b6), (.ref b6)] _
        refine XS.ixor X6.here hx rfl (hb hby at_78) rfl ?_
        show SS p e below m T6 79 #[iv p1, iv p2, iv p3, iv p4, iv p5, .val (.long q6), .second, iv (p1 &&& (16383 : Int32)), iv (0 : Int32), iv (0 : Int32), iv (p1 &&& (16383 : Int32)), .unset, .unset] [(.int (p4 ^^^ p5)), (.int (p3 ^^^ p4)), (.int p5), (.int (p1 &&& (16383 : Int32))), (.int p4), (.int p3), (.ref b6), (.ref b6)] _
        refine XS.lload X6.here hx rfl (hb hby at_79) rfl ?_
        show SS p e below m T6 81 #[iv p1, iv p2, iv p3, iv p4, iv p5, .val (.long q6), .second, iv (p1 &&& (16383 : Int32)), iv (0 : Int32), iv (0 : Int32), iv (p1 &&& (16383 : Int32)), .unset, .unset] [(.long q6), (.int (p4 ^^^ p5)), (.int (p3 ^^^ p4)), (.int p5), (.int (p1 &&& (16383 : Int32))), (.int p4), (.int p3), (.ref b6), (.ref b6)] _
        exact kk)
      obtain ⟨_, _, ⟨T8, L8, k8, n8⟩, -, X8, ⟨Lc8, hQ8, l8, y8, z8⟩, st8⟩ := X6.specialBack hx (y := (⟨"com/example/reston/reston/codec/Envelope", "<init>", "(IIIIIIJ)V"⟩ : MethodName)) rfl hown (mvT hZ (hw _ (List.mem_of_getElem? (i := 4) rfl))) (mvT hZ (hw _ (List.mem_of_getElem? (i := 5) rfl))) (mvT hZ (hw _ (List.mem_of_getElem? (i := 6) rfl))) (by decide) (backOf (W := 1) (rm1 l Z a0 hw [] b6 p3 p4 (p1 &&& (16383 : Int32)) p5 (p3 ^^^ p4) (p4 ^^^ p5) q6 h6 n0 Z6 A6 g_b6 F_majorVersion_b6 F_minorVersion_b6 F_flags_b6 F_sessionId_b6 F_requestId_b6 F_sequenceNumber_b6 F_messageLength_b6) hZ (hw _ (List.mem_of_getElem? (i := 6) rfl)) (hw _ (List.mem_of_getElem? (i := 3) rfl)) (by decide) (by decide)) (g := (mkF m 81 #[iv p1, iv p2, iv p3, iv p4, iv p5, .val (.long q6), .second, iv (p1 &&& (16383 : Int32)), iv (0 : Int32), iv (0 : Int32), iv (p1 &&& (16383 : Int32)), .unset, .unset] [(.long q6), (.int (p4 ^^^ p5)), (.int (p3 ^^^ p4)), (.int p5), (.int (p1 &&& (16383 : Int32))), (.int p4), (.int p3), (.ref b6), (.ref b6)])) rfl (by rw [hml]; rfl) (Steps.refl _) (a := b6) (argsL := [(.int p3), (.int p4), (.int (p1 &&& (16383 : Int32))), (.int p5), (.int (p3 ^^^ p4)), (.int (p4 ^^^ p5)), (.long q6)]) (rest := [(.ref b6)]) (lenOf pd_1 rfl) rfl (by show 2 * 0 + _ ≤ _; exact Nat.le_of_eq rfl) (hb hby at_81) (fun _ _ => ⟨rfl, e6, (by decide : 1 + 0 ≤ _), (by decide : 7 + 0 ≤ _)⟩)
      dsimp only [Pt.U, Pt.locs, Pt.cells, Pt.slots] at X8 l8 y8 z8 st8 hQ8
      subst l8 y8 z8
      obtain ⟨rfl, N8q, K8, E8, F8⟩ := hQ8
      have Z8 : n0 ≤ T8.heap.size := Nat.le_trans Z6 K8.1
      have N8 := Fr.app N0 N8q
      have pre9 : ∀ t, SS p e below m T8 105 #[iv p1, iv p2, iv p3, iv p4, iv p5, .val (.long q6), .second, iv (p1 &&& (16383 : Int32)), iv (0 : Int32), iv (0 : Int32), iv (p1 &&& (16383 : Int32)), rv b6, iv (1 : Int32)] [(.ref b6)] t → B t := fun t kk => pre7 t (by
        refine st8.trans ?_
        show SS p e below m T8 84 #[iv p1, iv p2, iv p3, iv p4, iv p5, .val (.long q6), .second, iv (p1 &&& (16383 : Int32)), iv (0 : Int32), iv (0 : Int32), iv (p1 &&& (16383 : Int32)), .unset, .unset] [(.ref b6)] _
        refine XS.astore X8.here hx rfl (hb hby at_84) rfl rfl (l' := #[iv p1, iv p2, iv p3, iv p4, iv p5, .val (.long q6), .second, iv (p1 &&& (16383 : Int32)), iv (0 : Int32), iv (0 : Int32), iv (p1 &&& (16383 : Int32)), rv b6, .unset]) rfl ?_
        show SS p e below m T8 86 #[iv p1, iv p2, iv p3, iv p4, iv p5, .val (.long q6), .second, iv (p1 &&& (16383 : Int32)), iv (0 : Int32), iv (0 : Int32), iv (p1 &&& (16383 : Int32)), rv b6, .unset] [] _
        refine XS.iload X8.here hx rfl (hb hby at_86) rfl ?_
        show SS p e below m T8 88 #[iv p1, iv p2, iv p3, iv p4, iv p5, .val (.long q6), .second, iv (p1 &&& (16383 : Int32)), iv (0 : Int32), iv (0 : Int32), iv (p1 &&& (16383 : Int32)), rv b6, .unset] [(.int (0 : Int32))] _
        refine XS.ifNo X8.here hx rfl (hb hby at_88) rfl ((if0 _ _).trans (teq (by decide : ((0 : Int32) = (0 : Int32)))).2) ?_
        show SS p e below m T8 91 #[iv p1, iv p2, iv p3, iv p4, iv p5, .val (.long q6), .second, iv (p1 &&& (16383 : Int32)), iv (0 : Int32), iv (0 : Int32), iv (p1 &&& (16383 : Int32)), rv b6, .unset] [] _
        refine XS.iload X8.here hx rfl (hb hby at_91) rfl ?_
        show SS p e below m T8 93 #[iv p1, iv p2, iv p3, iv p4, iv p5, .val (.long q6), .second, iv (p1 &&& (16383 : Int32)), iv (0 : Int32), iv (0 : Int32), iv (p1 &&& (16383 : Int32)), rv b6, .unset] [(.int (0 : Int32))] _
        refine XS.ifNo X8.here hx rfl (hb hby at_93) rfl ((if0 _ _).trans (teq (by decide : ((0 : Int32) = (0 : Int32)))).2) ?_
        show SS p e below m T8 96 #[iv p1, iv p2, iv p3, iv p4, iv p5, .val (.long q6), .second, iv (p1 &&& (16383 : Int32)), iv (0 : Int32), iv (0 : Int32), iv (p1 &&& (16383 : Int32)), rv b6, .unset] [] _
        refine XS.iconst X8.here hx rfl (hb hby at_96) ?_
        show SS p e below m T8 97 #[iv p1, iv p2, iv p3, iv p4, iv p5, .val (.long q6), .second, iv (p1 &&& (16383 : Int32)), iv (0 : Int32), iv (0 : Int32), iv (p1 &&& (16383 : Int32)), rv b6, .unset] [(.int (1 : Int32))] _
        refine XS.goto X8.here hx rfl (pc0 := 97) (pc' := 101) rfl (hb hby at_97) (by decide) (by decide) ?_
        show SS p e below m T8 101 #[iv p1, iv p2, iv p3, iv p4, iv p5, .val (.long q6), .second, iv (p1 &&& (16383 : Int32)), iv (0 : Int32), iv (0 : Int32), iv (p1 &&& (16383 : Int32)), rv b6, .unset] [(.int (1 : Int32))] _
        refine XS.istore X8.here hx rfl (hb hby at_101) rfl (l' := #[iv p1, iv p2, iv p3, iv p4, iv p5, .val (.long q6), .second, iv (p1 &&& (16383 : Int32)), iv (0 : Int32), iv (0 : Int32), iv (p1 &&& (16383 : Int32)), rv b6, iv (1 : Int32)]) rfl ?_
        show SS p e below m T8 103 #[iv p1, iv p2, iv p3, iv p4, iv p5, .val (.long q6), .second, iv (p1 &&& (16383 : Int32)), iv (0 : Int32), iv (0 : Int32), iv (p1 &&& (16383 : Int32)), rv b6, iv (1 : Int32)] [] _
        refine XS.aload X8.here hx rfl (hb hby at_103) rfl rfl ?_
        show SS p e below m T8 105 #[iv p1, iv p2, iv p3, iv p4, iv p5, .val (.long q6), .second, iv (p1 &&& (16383 : Int32)), iv (0 : Int32), iv (0 : Int32), iv (p1 &&& (16383 : Int32)), rv b6, iv (1 : Int32)] [(.ref b6)] _
        exact kk)
      obtain ⟨cq10, kq10, q10a, q10b, q10c⟩ := isOf hZ rfl E8
      obtain ⟨_, _, ⟨T10, L10, k10, n10⟩, -, X10, ⟨Lc10, hQ10, l10, y10, z10⟩, st10⟩ := X8.virtualBack hx (y := (⟨"com/example/reston/reston/codec/Envelope", "isPlain", "()Z"⟩ : MethodName)) (z := (⟨"com/example/reston/reston/codec/Envelope", "isPlain", "()Z"⟩ : MethodName)) hown (mvT hZ (hw _ (List.mem_of_getElem? (i := 29) rfl))) (mvT hZ (hw _ (List.mem_of_getElem? (i := 30) rfl))) (notFace_of_selects (args := #[]) (mvT hZ (hw _ (List.mem_of_getElem? (i := 32) rfl)))) (mvT hZ (hw _ (List.mem_of_getElem? (i := 32) rfl))) (mvT hZ (hw _ (List.mem_of_getElem? (i := 31) rfl))) (by decide) (backOf (W := 0) (rm4 l Z a0 hw [] b6 (p1 &&& (16383 : Int32)) T8.heap n0 Z8 F8) hZ (hw _ (List.mem_of_getElem? (i := 33) rfl)) (hw _ (List.mem_of_getElem? (i := 3) rfl)) (by decide) (by decide)) q10a q10c (g := (mkF m 105 #[iv p1, iv p2, iv p3, iv p4, iv p5, .val (.long q6), .second, iv (p1 &&& (16383 : Int32)), iv (0 : Int32), iv (0 : Int32), iv (p1 &&& (16383 : Int32)), rv b6, iv (1 : Int32)] [(.ref b6)])) rfl (by rw [hml]; rfl) (Steps.refl _) (argsL := []) (rest := []) (lenOf pd_2 rfl) rfl (by show 2 * 0 + _ ≤ _; exact Nat.le_of_eq rfl) (hb hby at_105) (fun _ _ => ⟨rfl, rfl, (by decide : 1 + 0 ≤ _), (by decide : 7 + 0 ≤ _)⟩)
      dsimp only [Pt.U, Pt.locs, Pt.cells, Pt.slots] at X10 l10 y10 z10 st10 hQ10
      subst l10 y10 z10
      obtain ⟨rfl, N10q, e10⟩ := hQ10
      have N10 := Fr.app N8 N10q
      have pre11 : ∀ t, SS p e below m T10 118 #[iv p1, iv p2, iv p3, iv p4, iv p5, .val (.long q6), .second, iv (p1 &&& (16383 : Int32)), iv (0 : Int32), iv (0 : Int32), iv (p1 &&& (16383 : Int32)), rv b6, iv (1 : Int32)] [(.int (1 : Int32))] t → B t := fun t kk => pre9 t (by
        refine st10.trans ?_
        show SS p e below m T10 108 #[iv p1, iv p2, iv p3, iv p4, iv p5, .val (.long q6), .second, iv (p1 &&& (16383 : Int32)), iv (0 : Int32), iv (0 : Int32), iv (p1 &&& (16383 : Int32)), rv b6, iv (1 : Int32)] [(.int (f4 (p1 &&& (16383 : Int32))))] _
        refine XS.iload X10.here hx rfl (hb hby at_108) rfl ?_
        show SS p e below m T10 110 #[iv p1, iv p2, iv p3, iv p4, iv p5, .val (.long q6), .second, iv (p1 &&& (16383 : Int32)), iv (0 : Int32), iv (0 : Int32), iv (p1 &&& (16383 : Int32)), rv b6, iv (1 : Int32)] [(.int (1 : Int32)), (.int (f4 (p1 &&& (16383 : Int32))))] _
        refine XS.icmpNo X10.here hx rfl (hb hby at_110) rfl (teq (own_l0_0 p1  )).2 ?_
        show SS p e below m T10 113 #[iv p1, iv p2, iv p3, iv p4, iv p5, .val (.long q6), .second, iv (p1 &&& (16383 : Int32)), iv (0 : Int32), iv (0 : Int32), iv (p1 &&& (16383 : Int32)), rv b6, iv (1 : Int32)] [] _
        refine XS.iconst X10.here hx rfl (hb hby at_113) ?_
        show SS p e below m T10 114 #[iv p1, iv p2, iv p3, iv p4, iv p5, .val (.long q6), .second, iv (p1 &&& (16383 : Int32)), iv (0 : Int32), iv (0 : Int32), iv (p1 &&& (16383 : Int32)), rv b6, iv (1 : Int32)] [(.int (1 : Int32))] _
        refine XS.goto X10.here hx rfl (pc0 := 114) (pc' := 118) rfl (hb hby at_114) (by decide) (by decide) ?_
        show SS p e below m T10 118 #[iv p1, iv p2, iv p3, iv p4, iv p5, .val (.long q6), .second, iv (p1 &&& (16383 : Int32)), iv (0 : Int32), iv (0 : Int32), iv (p1 &&& (16383 : Int32)), rv b6, iv (1 : Int32)] [(.int (1 : Int32))] _
        exact kk)
      obtain ⟨fs, hr, hrun, hended, hW, hsame⟩ := X10.leave (v := some (.int (1 : Int32))) (fun h => by rw [Bd.returns] at h; cases h)
      refine ⟨_, _, hB _ (pre11 _ ?_), hrun, hended, _, _, rfl, ?_, ⟨_, rfl⟩, hW, hsame.mono (by decide) (by decide)⟩
      · exact retN X10 hx (t := .boolean) Bd.returns (by simp) (hb hby at_118) hr
      · exact ⟨rfl, N10⟩
    · have pre12 : ∀ t, SS p e below m s₁ 62 #[iv p1, iv p2, iv p3, iv p4, iv p5, .val (.long q6), .second, iv (p1 &&& (16383 : Int32)), iv (0 : Int32), iv (1 : Int32), iv ((p1 &&& (16383 : Int32)) ||| (16384 : Int32)), .unset, .unset] [] t → B t := fun t kk => pre3 t (by
        refine XS.ifNo X0.here hx rfl (hb hby at_23) rfl ((if0 _ _).trans (feq hc4).1) ?_
        show SS p e below m s₁ 26 #[iv p1, iv p2, iv p3, iv p4, iv p5, .val (.long q6), .second, iv (p1 &&& (16383 : Int32)), iv (0 : Int32), .unset, .unset, .unset, .unset] [] _
        refine XS.iconst X0.here hx rfl (hb hby at_26) ?_
        show SS p e below m s₁ 27 #[iv p1, iv p2, iv p3, iv p4, iv p5, .val (.long q6), .second, iv (p1 &&& (16383 : Int32)), iv (0 : Int32), .unset, .unset, .unset, .unset] [(.int (1 : Int32))] _
        refine XS.goto X0.here hx rfl (pc0 := 27) (pc' := 31) rfl (hb hby at_27) (by decide) (by decide) ?_
        show SS p e below m s₁ 31 #[iv p1, iv p2, iv p3, iv p4, iv p5, .val (.long q6), .second, iv (p1 &&& (16383 : Int32)), iv (0 : Int32), .unset, .unset, .unset, .unset] [(.int (1 : Int32))] _
        refine XS.istore X0.here hx rfl (hb hby at_31) rfl (l' := #[iv p1, iv p2, iv p3, iv p4, iv p5, .val (.long q6), .second, iv (p1 &&& (16383 : Int32)), iv (0 : Int32), iv (1 : Int32), .unset, .unset, .unset]) rfl ?_
        show SS p e below m s₁ 33 #[iv p1, iv p2, iv p3, iv p4, iv p5, .val (.long q6), .second, iv (p1 &&& (16383 : Int32)), iv (0 : Int32), iv (1 : Int32), .unset, .unset, .unset] [] _
        refine XS.iload X0.here hx rfl (hb hby at_33) rfl ?_
        show SS p e below m s₁ 35 #[iv p1, iv p2, iv p3, iv p4, iv p5, .val (.long q6), .second, iv (p1 &&& (16383 : Int32)), iv (0 : Int32), iv (1 : Int32), .unset, .unset, .unset] [(.int (p1 &&& (16383 : Int32)))] _
        refine XS.istore X0.here hx rfl (hb hby at_35) rfl (l' := #[iv p1, iv p2, iv p3, iv p4, iv p5, .val (.long q6), .second, iv (p1 &&& (16383 : Int32)), iv (0 : Int32), iv (1 : Int32), iv (p1 &&& (16383 : Int32)), .unset, .unset]) rfl ?_
        show SS p e below m s₁ 37 #[iv p1, iv p2, iv p3, iv p4, iv p5, .val (.long q6), .second, iv (p1 &&& (16383 : Int32)), iv (0 : Int32), iv (1 : Int32), iv (p1 &&& (16383 : Int32)), .unset, .unset] [] _
        refine XS.iload X0.here hx rfl (hb hby at_37) rfl ?_
        show SS p e below m s₁ 39 #[iv p1, iv p2, iv p3, iv p4, iv p5, .val (.long q6), .second, iv (p1 &&& (16383 : Int32)), iv (0 : Int32), iv (1 : Int32), iv (p1 &&& (16383 : Int32)), .unset, .unset] [(.int (0 : Int32))] _
        refine XS.ifYes X0.here hx rfl (pc0 := 39) (pc' := 49) rfl (hb hby at_39) rfl ((if0 _ _).trans (teq (by decide : ((0 : Int32) = (0 : Int32)))).1) (by decide) (by decide) ?_
        show SS p e below m s₁ 49 #[iv p1, iv p2, iv p3, iv p4, iv p5, .val (.long q6), .second, iv (p1 &&& (16383 : Int32)), iv (0 : Int32), iv (1 : Int32), iv (p1 &&& (16383 : Int32)), .unset, .unset] [] _
        refine XS.iload X0.here hx rfl (hb hby at_49) rfl ?_
        show SS p e below m s₁ 51 #[iv p1, iv p2, iv p3, iv p4, iv p5, .val (.long q6), .second, iv (p1 &&& (16383 : Int32)), iv (0 : Int32), iv (1 : Int32), iv (p1 &&& (16383 : Int32)), .unset, .unset] [(.int (1 : Int32))] _
        refine XS.ifNo X0.here hx rfl (hb hby at_51) rfl ((if0 _ _).trans (feq (by decide : ¬ ((1 : Int32) = (0 : Int32)))).1) ?_
        show SS p e below m s₁ 54 #[iv p1, iv p2, iv p3, iv p4, iv p5, .val (.long q6), .second, iv (p1 &&& (16383 : Int32)), iv (0 : Int32), iv (1 : Int32), iv (p1 &&& (16383 : Int32)), .unset, .unset] [] _
        refine XS.iload X0.here hx rfl (hb hby at_54) rfl ?_
        show SS p e below m s₁ 56 #[iv p1, iv p2, iv p3, iv p4, iv p5, .val (.long q6), .second, iv (p1 &&& (16383 : Int32)), iv (0 : Int32), iv (1 : Int32), iv (p1 &&& (16383 : Int32)), .unset, .unset] [(.int (p1 &&& (16383 : Int32)))] _
        refine XS.sipush X0.here hx rfl (hb hby at_56) ?_
        show SS p e below m s₁ 59 #[iv p1, iv p2, iv p3, iv p4, iv p5, .val (.long q6), .second, iv (p1 &&& (16383 : Int32)), iv (0 : Int32), iv (1 : Int32), iv (p1 &&& (16383 : Int32)), .unset, .unset] [(.int (16384 : Int32)), (.int (p1 &&& (16383 : Int32)))] _
        refine XS.ior X0.here hx rfl (hb hby at_59) rfl ?_
        show SS p e below m s₁ 60 #[iv p1, iv p2, iv p3, iv p4, iv p5, .val (.long q6), .second, iv (p1 &&& (16383 : Int32)), iv (0 : Int32), iv (1 : Int32), iv (p1 &&& (16383 : Int32)), .unset, .unset] [(.int ((p1 &&& (16383 : Int32)) ||| (16384 : Int32)))] _
        refine XS.istore X0.here hx rfl (hb hby at_60) rfl (l' := #[iv p1, iv p2, iv p3, iv p4, iv p5, .val (.long q6), .second, iv (p1 &&& (16383 : Int32)), iv (0 : Int32), iv (1 : Int32), iv ((p1 &&& (16383 : Int32)) ||| (16384 : Int32)), .unset, .unset]) rfl ?_
        show SS p e below m s₁ 62 #[iv p1, iv p2, iv p3, iv p4, iv p5, .val (.long q6), .second, iv (p1 &&& (16383 : Int32)), iv (0 : Int32), iv (1 : Int32), iv ((p1 &&& (16383 : Int32)) ||| (16384 : Int32)), .unset, .unset] [] _
        exact kk)
      obtain ⟨T13, h13, X13, e13, E13, A13, D13, -, st13⟩ := newO X0 hx hZ hown (hw _ (List.mem_of_getElem? (i := 1) rfl)) (hw _ (List.mem_of_getElem? (i := 2) rfl)) (hw _ (List.mem_of_getElem? (i := 3) rfl)) e0 (g := (mkF m 62 #[iv p1, iv p2, iv p3, iv p4, iv p5, .val (.long q6), .second, iv (p1 &&& (16383 : Int32)), iv (0 : Int32), iv (1 : Int32), iv ((p1 &&& (16383 : Int32)) ||| (16384 : Int32)), .unset, .unset] [])) rfl (hb hby at_62) (by decide) (by decide)
      obtain ⟨b13, g13⟩ : ∃ z, z = h0.size := ⟨_, rfl⟩
      rw [← g13] at A13 D13 st13
      have g_b13 : n0 ≤ b13 := Nat.le_trans Z0 (Nat.le_of_eq g13.symm)
      have Z13 : n0 ≤ h13.size := Nat.le_trans Z0 E13.1
      have F_majorVersion_b13 : Fld Z h13 b13 "com/example/reston/reston/codec/Envelope" "majorVersion" "I" (.int (0 : Int32)) := D13 (Or.inr (hw _ (List.mem_of_getElem? (i := 16) rfl))) (ty := .int) (by decide)
      have F_minorVersion_b13 : Fld Z h13 b13 "com/example/reston/reston/codec/Envelope" "minorVersion" "I" (.int (0 : Int32)) := D13 (Or.inr (hw _ (List.mem_of_getElem? (i := 18) rfl))) (ty := .int) (by decide)
      have F_flags_b13 : Fld Z h13 b13 "com/example/reston/reston/codec/Envelope" "flags" "I" (.int (0 : Int32)) := D13 (Or.inr (hw _ (List.mem_of_getElem? (i := 20) rfl))) (ty := .int) (by decide)
      have F_sessionId_b13 : Fld Z h13 b13 "com/example/reston/reston/codec/Envelope" "sessionId" "I" (.int (0 : Int32)) := D13 (Or.inr (hw _ (List.mem_of_getElem? (i := 22) rfl))) (ty := .int) (by decide)
      have F_requestId_b13 : Fld Z h13 b13 "com/example/reston/reston/codec/Envelope" "requestId" "I" (.int (0 : Int32)) := D13 (Or.inr (hw _ (List.mem_of_getElem? (i := 24) rfl))) (ty := .int) (by decide)
      have F_sequenceNumber_b13 : Fld Z h13 b13 "com/example/reston/reston/codec/Envelope" "sequenceNumber" "I" (.int (0 : Int32)) := D13 (Or.inr (hw _ (List.mem_of_getElem? (i := 26) rfl))) (ty := .int) (by decide)
      have F_messageLength_b13 : Fld Z h13 b13 "com/example/reston/reston/codec/Envelope" "messageLength" "J" (.long (0 : Int64)) := D13 (Or.inr (hw _ (List.mem_of_getElem? (i := 28) rfl))) (ty := .long) (by decide)
      have pre14 : ∀ t, SS p e below m T13 81 #[iv p1, iv p2, iv p3, iv p4, iv p5, .val (.long q6), .second, iv (p1 &&& (16383 : Int32)), iv (0 : Int32), iv (1 : Int32), iv ((p1 &&& (16383 : Int32)) ||| (16384 : Int32)), .unset, .unset] [(.long q6), (.int (p4 ^^^ p5)), (.int (p3 ^^^ p4)), (.int p5), (.int ((p1 &&& (16383 : Int32)) ||| (16384 : Int32))), (.int p4), (.int p3), (.ref b13), (.ref b13)] t → B t := fun t kk => pre12 t (by
        refine st13 _ ?_
        show SS p e below m T13 65 #[iv p1, iv p2, iv p3, iv p4, iv p5, .val (.long q6), .second, iv (p1 &&& (16383 : Int32)), iv (0 : Int32), iv (1 : Int32), iv ((p1 &&& (16383 : Int32)) ||| (16384 : Int32)), .unset, .unset] [(.ref b13)] _
        refine XS.dup X13.here hx rfl (hb hby at_65) rfl rfl ?_
        show SS p e below m T13 66 #[iv p1, iv p2, iv p3, iv p4, iv p5, .val (.long q6), .second, iv (p1 &&& (16383 : Int32)), iv (0 : Int32), iv (1 : Int32), iv ((p1 &&& (16383 : Int32)) ||| (16384 : Int32)), .unset, .unset] [(.ref b13), (.ref b13)] _
        refine XS.iloadN X13.here hx rfl (hb hby at_66) rfl ?_
        show SS p e below m T13 67 #[iv p1, iv p2, iv p3, iv p4, iv p5, .val (.long q6), .second, iv (p1 &&& (16383 : Int32)), iv (0 : Int32), iv (1 : Int32), iv ((p1 &&& (16383 : Int32)) ||| (16384 : Int32)), .unset, .unset] [(.int p3), (.ref b13), (.ref b13)] _
        refine XS.iloadN X13.here hx rfl (hb hby at_67) rfl ?_
        show SS p e below m T13 68 #[iv p1, iv p2, iv p3, iv p4, iv p5, .val (.long q6), .second, iv (p1 &&& (16383 : Int32)), iv (0 : Int32), iv (1 : Int32), iv ((p1 &&& (16383 : Int32)) ||| (16384 : Int32)), .unset, .unset] [(.int p4), (.int p3), (.ref b13), (.ref b13)] _
        refine XS.iload X13.here hx rfl (hb hby at_68) rfl ?_
        show SS p e below m T13 70 #[iv p1, iv p2, iv p3, iv p4, iv p5, .val (.long q6), .second, iv (p1 &&& (16383 : Int32)), iv (0 : Int32), iv (1 : Int32), iv ((p1 &&& (16383 : Int32)) ||| (16384 : Int32)), .unset, .unset] [(.int ((p1 &&& (16383 : Int32)) ||| (16384 : Int32))), (.int p4), (.int p3), (.ref b13), (.ref b13)] _
        refine XS.iload X13.here hx rfl (hb hby at_70) rfl ?_
        show SS p e below m T13 72 #[iv p1, iv p2, iv p3, iv p4, iv p5, .val (.long q6), .second, iv (p1 &&& (16383 : Int32)), iv (0 : Int32), iv (1 : Int32), iv ((p1 &&& (16383 : Int32)) ||| (16384 : Int32)), .unset, .unset] [(.int p5), (.int ((p1 &&& (16383 : Int32)) ||| (16384 : Int32))), (.int p4), (.int p3), (.ref b13), (.ref b13)] _
        refine XS.iloadN X13.here hx rfl (hb hby at_72) rfl ?_
        show SS p e below m T13 73 #[iv p1, iv p2, iv p3, iv p4, iv p5, .val (.long q6), .second, iv (p1 &&& (16383 : Int32)), iv (0 : Int32), iv (1 : Int32), iv ((p1 &&& (16383 : Int32)) ||| (16384 : Int32)), .unset, .unset] [(.int p3), (.int p5), (.int ((p1 &&& (16383 : Int32)) ||| (16384 : Int32))), (.int p4), (.int p3), (.ref b13), (.ref b13)] _
        refine XS.iloadN X13.here hx rfl (hb hby at_73) rfl ?_
        show SS p e below m T13 74 #[iv p1, iv p2, iv p3, iv p4, iv p5, .val (.long q6), .second, iv (p1 &&& (16383 : Int32)), iv (0 : Int32), iv (1 : Int32), iv ((p1 &&& (16383 : Int32)) ||| (16384 : Int32)), .unset, .unset] [(.int p4), (.int p3), (.int p5), (.int ((p1 &&& (16383 : Int32)) ||| (16384 : Int32))), (.int p4), (.int p3), (.ref b13), (.ref b13)] _
        refine XS.ixor X13.here hx rfl (hb hby at_74) rfl ?_
        show SS p e below m T13 75 #[iv p1, iv p2, iv p3, iv p4, iv p5, .val (.long q6), .second, iv (p1 &&& (16383 : Int32)), iv (0 : Int32), iv (1 : Int32), iv ((p1 &&& (16383 : Int32)) ||| (16384 : Int32)), .unset, .unset] [(.int (p3 ^^^ p4)), (.int p5), (.int ((p1 &&& (16383 : Int32)) ||| (16384 : Int32))), (.int p4), (.int p3), (.ref b13), (.ref b13)] _
        refine XS.iloadN X13.here hx rfl (hb hby at_75) rfl ?_
        show SS p e below m T13 76 #[iv p1, iv p2, iv p3, iv p4, iv p5, .val (.long q6), .second, iv (p1 &&& (16383 : Int32)), iv (0 : Int32), iv (1 : Int32), iv ((p1 &&& (16383 : Int32)) ||| (16384 : Int32)), .unset, .unset] [(.int p4), (.int (p3 ^^^ p4)), (.int p5), (.int ((p1 &&& (16383 : Int32)) ||| (16384 : Int32))), (.int p4), (.int p3), (.ref b13), (.ref b13)] _
        refine XS.iload X13.here hx rfl (hb hby at_76) rfl ?_
        show SS p e below m T13 78 #[iv p1, iv p2, iv p3, iv p4, iv p5, .val (.long q6), .second, iv (p1 &&& (16383 : Int32)), iv (0 : Int32), iv (1 : Int32), iv ((p1 &&& (16383 : Int32)) ||| (16384 : Int32)), .unset, .unset] [(.int p5), (.int p4), (.int (p3 ^^^ p4)), (.int p5), (.int ((p1 &&& (16383 : Int32)) ||| (16384 : Int32))), (.int p4), (.int p3), (.ref b13), (.ref b13)] _
        refine XS.ixor X13.here hx rfl (hb hby at_78) rfl ?_
        show SS p e below m T13 79 #[iv p1, iv p2, iv p3, iv p4, iv p5, .val (.long q6), .second, iv (p1 &&& (16383 : Int32)), iv (0 : Int32), iv (1 : Int32), iv ((p1 &&& (16383 : Int32)) ||| (16384 : Int32)), .unset, .unset] [(.int (p4 ^^^ p5)), (.int (p3 ^^^ p4)), (.int p5), (.int ((p1 &&& (16383 : Int32)) ||| (16384 : Int32))), (.int p4), (.int p3), (.ref b13), (.ref b13)] _
        refine XS.lload X13.here hx rfl (hb hby at_79) rfl ?_
        show SS p e below m T13 81 #[iv p1, iv p2, iv p3, iv p4, iv p5, .val (.long q6), .second, iv (p1 &&& (16383 : Int32)), iv (0 : Int32), iv (1 : Int32), iv ((p1 &&& (16383 : Int32)) ||| (16384 : Int32)), .unset, .unset] [(.long q6), (.int (p4 ^^^ p5)), (.int (p3 ^^^ p4)), (.int p5), (.int ((p1 &&& (16383 : Int32)) ||| (16384 : Int32))), (.int p4), (.int p3), (.ref b13), (.ref b13)] _
        exact kk)
      obtain ⟨_, _, ⟨T15, L15, k15, n15⟩, -, X15, ⟨Lc15, hQ15, l15, y15, z15⟩, st15⟩ := X13.specialBack hx (y := (⟨"com/example/reston/reston/codec/Envelope", "<init>", "(IIIIIIJ)V"⟩ : MethodName)) rfl hown (mvT hZ (hw _ (List.mem_of_getElem? (i := 4) rfl))) (mvT hZ (hw _ (List.mem_of_getElem? (i := 5) rfl))) (mvT hZ (hw _ (List.mem_of_getElem? (i := 6) rfl))) (by decide) (backOf (W := 1) (rm1 l Z a0 hw [] b13 p3 p4 ((p1 &&& (16383 : Int32)) ||| (16384 : Int32)) p5 (p3 ^^^ p4) (p4 ^^^ p5) q6 h13 n0 Z13 A13 g_b13 F_majorVersion_b13 F_minorVersion_b13 F_flags_b13 F_sessionId_b13 F_requestId_b13 F_sequenceNumber_b13 F_messageLength_b13) hZ (hw _ (List.mem_of_getElem? (i := 6) rfl)) (hw _ (List.mem_of_getElem? (i := 3) rfl)) (by decide) (by decide)) (g := (mkF m 81 #[iv p1, iv p2, iv p3, iv p4, iv p5, .val (.long q6), .second, iv (p1 &&& (16383 : Int32)), iv (0 : Int32), iv (1 : Int32), iv ((p1 &&& (16383 : Int32)) ||| (16384 : Int32)), .unset, .unset] [(.long q6), (.int (p4 ^^^ p5)), (.int (p3 ^^^ p4)), (.int p5), (.int ((p1 &&& (16383 : Int32)) ||| (16384 : Int32))), (.int p4), (.int p3), (.ref b13), (.ref b13)])) rfl (by rw [hml]; rfl) (Steps.refl _) (a := b13) (argsL := [(.int p3), (.int p4), (.int ((p1 &&& (16383 : Int32)) ||| (16384 : Int32))), (.int p5), (.int (p3 ^^^ p4)), (.int (p4 ^^^ p5)), (.long q6)]) (rest := [(.ref b13)]) (lenOf pd_1 rfl) rfl (by show 2 * 0 + _ ≤ _; exact Nat.le_of_eq rfl) (hb hby at_81) (fun _ _ => ⟨rfl, e13, (by decide : 1 + 0 ≤ _), (by decide : 7 + 0 ≤ _)⟩)
      dsimp only [Pt.U, Pt.locs, Pt.cells, Pt.slots] at X15 l15 y15 z15 st15 hQ15
      subst l15 y15 z15
      obtain ⟨rfl, N15q, K15, E15, F15⟩ := hQ15
      have Z15 : n0 ≤ T15.heap.size := Nat.le_trans Z13 K15.1
      have N15 := Fr.app N0 N15q
      have pre16 : ∀ t, SS p e below m T15 105 #[iv p1, iv p2, iv p3, iv p4, iv p5, .val (.long q6), .second, iv (p1 &&& (16383 : Int32)), iv (0 : Int32), iv (1 : Int32), iv ((p1 &&& (16383 : Int32)) ||| (16384 : Int32)), rv b13, iv (0 : Int32)] [(.ref b13)] t → B t := fun t kk => pre14 t (by
        refine st15.trans ?_
        show SS p e below m T15 84 #[iv p1, iv p2, iv p3, iv p4, iv p5, .val (.long q6), .second, iv (p1 &&& (16383 : Int32)), iv (0 : Int32), iv (1 : Int32), iv ((p1 &&& (16383 : Int32)) ||| (16384 : Int32)), .unset, .unset] [(.ref b13)] _
        refine XS.astore X15.here hx rfl (hb hby at_84) rfl rfl (l' := #[iv p1, iv p2, iv p3, iv p4, iv p5, .val (.long q6), .second, iv (p1 &&& (16383 : Int32)), iv (0 : Int32), iv (1 : Int32), iv ((p1 &&& (16383 : Int32)) ||| (16384 : Int32)), rv b13, .unset]) rfl ?_
        show SS p e below m T15 86 #[iv p1, iv p2, iv p3, iv p4, iv p5, .val (.long q6), .second, iv (p1 &&& (16383 : Int32)), iv (0 : Int32), iv (1 : Int32), iv ((p1 &&& (16383 : Int32)) ||| (16384 : Int32)), rv b13, .unset] [] _
        refine XS.iload X15.here hx rfl (hb hby at_86) rfl ?_
        show SS p e below m T15 88 #[iv p1, iv p2, iv p3, iv p4, iv p5, .val (.long q6), .second, iv (p1 &&& (16383 : Int32)), iv (0 : Int32), iv (1 : Int32), iv ((p1 &&& (16383 : Int32)) ||| (16384 : Int32)), rv b13, .unset] [(.int (0 : Int32))] _
        refine XS.ifNo X15.here hx rfl (hb hby at_88) rfl ((if0 _ _).trans (teq (by decide : ((0 : Int32) = (0 : Int32)))).2) ?_
        show SS p e below m T15 91 #[iv p1, iv p2, iv p3, iv p4, iv p5, .val (.long q6), .second, iv (p1 &&& (16383 : Int32)), iv (0 : Int32), iv (1 : Int32), iv ((p1 &&& (16383 : Int32)) ||| (16384 : Int32)), rv b13, .unset] [] _
        refine XS.iload X15.here hx rfl (hb hby at_91) rfl ?_
        show SS p e below m T15 93 #[iv p1, iv p2, iv p3, iv p4, iv p5, .val (.long q6), .second, iv (p1 &&& (16383 : Int32)), iv (0 : Int32), iv (1 : Int32), iv ((p1 &&& (16383 : Int32)) ||| (16384 : Int32)), rv b13, .unset] [(.int (1 : Int32))] _
        refine XS.ifYes X15.here hx rfl (pc0 := 93) (pc' := 100) rfl (hb hby at_93) rfl ((if0 _ _).trans (feq (by decide : ¬ ((1 : Int32) = (0 : Int32)))).2) (by decide) (by decide) ?_
        show SS p e below m T15 100 #[iv p1, iv p2, iv p3, iv p4, iv p5, .val (.long q6), .second, iv (p1 &&& (16383 : Int32)), iv (0 : Int32), iv (1 : Int32), iv ((p1 &&& (16383 : Int32)) ||| (16384 : Int32)), rv b13, .unset] [] _
        refine XS.iconst X15.here hx rfl (hb hby at_100) ?_
        show SS p e below m T15 101 #[iv p1, iv p2, iv p3, iv p4, iv p5, .val (.long q6), .second, iv (p1 &&& (16383 : Int32)), iv (0 : Int32), iv (1 : Int32), iv ((p1 &&& (16383 : Int32)) ||| (16384 : Int32)), rv b13, .unset] [(.int (0 : Int32))] _
        refine XS.istore X15.here hx rfl (hb hby at_101) rfl (l' := #[iv p1, iv p2, iv p3, iv p4, iv p5, .val (.long q6), .second, iv (p1 &&& (16383 : Int32)), iv (0 : Int32), iv (1 : Int32), iv ((p1 &&& (16383 : Int32)) ||| (16384 : Int32)), rv b13, iv (0 : Int32)]) rfl ?_
        show SS p e below m T15 103 #[iv p1, iv p2, iv p3, iv p4, iv p5, .val (.long q6), .second, iv (p1 &&& (16383 : Int32)), iv (0 : Int32), iv (1 : Int32), iv ((p1 &&& (16383 : Int32)) ||| (16384 : Int32)), rv b13, iv (0 : Int32)] [] _
        refine XS.aload X15.here hx rfl (hb hby at_103) rfl rfl ?_
        show SS p e below m T15 105 #[iv p1, iv p2, iv p3, iv p4, iv p5, .val (.long q6), .second, iv (p1 &&& (16383 : Int32)), iv (0 : Int32), iv (1 : Int32), iv ((p1 &&& (16383 : Int32)) ||| (16384 : Int32)), rv b13, iv (0 : Int32)] [(.ref b13)] _
        exact kk)
      obtain ⟨cq17, kq17, q17a, q17b, q17c⟩ := isOf hZ rfl E15
      obtain ⟨_, _, ⟨T17, L17, k17, n17⟩, -, X17, ⟨Lc17, hQ17, l17, y17, z17⟩, st17⟩ := X15.virtualBack hx (y := (⟨"com/example/reston/reston/codec/Envelope", "isPlain", "()Z"⟩ : MethodName)) (z := (⟨"com/example/reston/reston/codec/Envelope", "isPlain", "()Z"⟩ : MethodName)) hown (mvT hZ (hw _ (List.mem_of_getElem? (i := 29) rfl))) (mvT hZ (hw _ (List.mem_of_getElem? (i := 30) rfl))) (notFace_of_selects (args := #[]) (mvT hZ (hw _ (List.mem_of_getElem? (i := 32) rfl)))) (mvT hZ (hw _ (List.mem_of_getElem? (i := 32) rfl))) (mvT hZ (hw _ (List.mem_of_getElem? (i := 31) rfl))) (by decide) (backOf (W := 0) (rm4 l Z a0 hw [] b13 ((p1 &&& (16383 : Int32)) ||| (16384 : Int32)) T15.heap n0 Z15 F15) hZ (hw _ (List.mem_of_getElem? (i := 33) rfl)) (hw _ (List.mem_of_getElem? (i := 3) rfl)) (by decide) (by decide)) q17a q17c (g := (mkF m 105 #[iv p1, iv p2, iv p3, iv p4, iv p5, .val (.long q6), .second, iv (p1 &&& (16383 : Int32)), iv (0 : Int32), iv (1 : Int32), iv ((p1 &&& (16383 : Int32)) ||| (16384 : Int32)), rv b13, iv (0 : Int32)] [(.ref b13)])) rfl (by rw [hml]; rfl) (Steps.refl _) (argsL := []) (rest := []) (lenOf pd_2 rfl) rfl (by show 2 * 0 + _ ≤ _; exact Nat.le_of_eq rfl) (hb hby at_105) (fun _ _ => ⟨rfl, rfl, (by decide : 1 + 0 ≤ _), (by decide : 7 + 0 ≤ _)⟩)
      dsimp only [Pt.U, Pt.locs, Pt.cells, Pt.slots] at X17 l17 y17 z17 st17 hQ17
      subst l17 y17 z17
      obtain ⟨rfl, N17q, e17⟩ := hQ17
      have N17 := Fr.app N15 N17q
      have pre18 : ∀ t, SS p e below m T17 118 #[iv p1, iv p2, iv p3, iv p4, iv p5, .val (.long q6), .second, iv (p1 &&& (16383 : Int32)), iv (0 : Int32), iv (1 : Int32), iv ((p1 &&& (16383 : Int32)) ||| (16384 : Int32)), rv b13, iv (0 : Int32)] [(.int (1 : Int32))] t → B t := fun t kk => pre16 t (by
        refine st17.trans ?_
        show SS p e below m T17 108 #[iv p1, iv p2, iv p3, iv p4, iv p5, .val (.long q6), .second, iv (p1 &&& (16383 : Int32)), iv (0 : Int32), iv (1 : Int32), iv ((p1 &&& (16383 : Int32)) ||| (16384 : Int32)), rv b13, iv (0 : Int32)] [(.int (f4 ((p1 &&& (16383 : Int32)) ||| (16384 : Int32))))] _
        refine XS.iload X17.here hx rfl (hb hby at_108) rfl ?_
        show SS p e below m T17 110 #[iv p1, iv p2, iv p3, iv p4, iv p5, .val (.long q6), .second, iv (p1 &&& (16383 : Int32)), iv (0 : Int32), iv (1 : Int32), iv ((p1 &&& (16383 : Int32)) ||| (16384 : Int32)), rv b13, iv (0 : Int32)] [(.int (0 : Int32)), (.int (f4 ((p1 &&& (16383 : Int32)) ||| (16384 : Int32))))] _
        refine XS.icmpNo X17.here hx rfl (hb hby at_110) rfl (teq (own_l0_1 p1  )).2 ?_
        show SS p e below m T17 113 #[iv p1, iv p2, iv p3, iv p4, iv p5, .val (.long q6), .second, iv (p1 &&& (16383 : Int32)), iv (0 : Int32), iv (1 : Int32), iv ((p1 &&& (16383 : Int32)) ||| (16384 : Int32)), rv b13, iv (0 : Int32)] [] _
        refine XS.iconst X17.here hx rfl (hb hby at_113) ?_
        show SS p e below m T17 114 #[iv p1, iv p2, iv p3, iv p4, iv p5, .val (.long q6), .second, iv (p1 &&& (16383 : Int32)), iv (0 : Int32), iv (1 : Int32), iv ((p1 &&& (16383 : Int32)) ||| (16384 : Int32)), rv b13, iv (0 : Int32)] [(.int (1 : Int32))] _
        refine XS.goto X17.here hx rfl (pc0 := 114) (pc' := 118) rfl (hb hby at_114) (by decide) (by decide) ?_
        show SS p e below m T17 118 #[iv p1, iv p2, iv p3, iv p4, iv p5, .val (.long q6), .second, iv (p1 &&& (16383 : Int32)), iv (0 : Int32), iv (1 : Int32), iv ((p1 &&& (16383 : Int32)) ||| (16384 : Int32)), rv b13, iv (0 : Int32)] [(.int (1 : Int32))] _
        exact kk)
      obtain ⟨fs, hr, hrun, hended, hW, hsame⟩ := X17.leave (v := some (.int (1 : Int32))) (fun h => by rw [Bd.returns] at h; cases h)
      refine ⟨_, _, hB _ (pre18 _ ?_), hrun, hended, _, _, rfl, ?_, ⟨_, rfl⟩, hW, hsame.mono (by decide) (by decide)⟩
      · exact retN X17 hx (t := .boolean) Bd.returns (by simp) (hb hby at_118) hr
      · exact ⟨rfl, N17⟩
  · have pre19 : ∀ t, SS p e below m s₁ 23 #[iv p1, iv p2, iv p3, iv p4, iv p5, .val (.long q6), .second, iv (p1 &&& (16383 : Int32)), iv (1 : Int32), .unset, .unset, .unset, .unset] [(.int (p2 &&& (2 : Int32)))] t → B t := fun t kk => pre1 t (by
      refine XS.ifNo X0.here hx rfl (hb hby at_10) rfl ((if0 _ _).trans (feq hc2).1) ?_
      show SS p e below m s₁ 13 #[iv p1, iv p2, iv p3, iv p4, iv p5, .val (.long q6), .second, iv (p1 &&& (16383 : Int32)), .unset, .unset, .unset, .unset, .unset] [] _
      refine XS.iconst X0.here hx rfl (hb hby at_13) ?_
      show SS p e below m s₁ 14 #[iv p1, iv p2, iv p3, iv p4, iv p5, .val (.long q6), .second, iv (p1 &&& (16383 : Int32)), .unset, .unset, .unset, .unset, .unset] [(.int (1 : Int32))] _
      refine XS.goto X0.here hx rfl (pc0 := 14) (pc' := 18) rfl (hb hby at_14) (by decide) (by decide) ?_
      show SS p e below m s₁ 18 #[iv p1, iv p2, iv p3, iv p4, iv p5, .val (.long q6), .second, iv (p1 &&& (16383 : Int32)), .unset, .unset, .unset, .unset, .unset] [(.int (1 : Int32))] _
      refine XS.istore X0.here hx rfl (hb hby at_18) rfl (l' := #[iv p1, iv p2, iv p3, iv p4, iv p5, .val (.long q6), .second, iv (p1 &&& (16383 : Int32)), iv (1 : Int32), .unset, .unset, .unset, .unset]) rfl ?_
      show SS p e below m s₁ 20 #[iv p1, iv p2, iv p3, iv p4, iv p5, .val (.long q6), .second, iv (p1 &&& (16383 : Int32)), iv (1 : Int32), .unset, .unset, .unset, .unset] [] _
      refine XS.iloadN X0.here hx rfl (hb hby at_20) rfl ?_
      show SS p e below m s₁ 21 #[iv p1, iv p2, iv p3, iv p4, iv p5, .val (.long q6), .second, iv (p1 &&& (16383 : Int32)), iv (1 : Int32), .unset, .unset, .unset, .unset] [(.int p2)] _
      refine XS.iconst X0.here hx rfl (hb hby at_21) ?_
      show SS p e below m s₁ 22 #[iv p1, iv p2, iv p3, iv p4, iv p5, .val (.long q6), .second, iv (p1 &&& (16383 : Int32)), iv (1 : Int32), .unset, .unset, .unset, .unset] [(.int (2 : Int32)), (.int p2)] _
      refine XS.iand X0.here hx rfl (hb hby at_22) rfl ?_
      show SS p e below m s₁ 23 #[iv p1, iv p2, iv p3, iv p4, iv p5, .val (.long q6), .second, iv (p1 &&& (16383 : Int32)), iv (1 : Int32), .unset, .unset, .unset, .unset] [(.int (p2 &&& (2 : Int32)))] _
      exact kk)
    by_cases hc20 : (p2 &&& (2 : Int32)) = (0 : Int32)
    · have pre21 : ∀ t, SS p e below m s₁ 62 #[iv p1, iv p2, iv p3, iv p4, iv p5, .val (.long q6), .second, iv (p1 &&& (16383 : Int32)), iv (1 : Int32), iv (0 : Int32), iv ((p1 &&& (16383 : Int32)) ||| (32768 : Int32)), .unset, .unset] [] t → B t := fun t kk => pre19 t (by
        refine XS.ifYes X0.here hx rfl (pc0 := 23) (pc' := 30) rfl (hb hby at_23) rfl ((if0 _ _).trans (teq hc20).1) (by decide) (by decide) ?_
        show SS p e below m s₁ 30 #[iv p1, iv p2, iv p3, iv p4, iv p5, .val (.long q6), .second, iv (p1 &&& (16383 : Int32)), iv (1 : Int32), .unset, .unset, .unset, .unset] [] _
        refine XS.iconst X0.here hx rfl (hb hby at_30) ?_
        show SS p e below m s₁ 31 #[iv p1, iv p2, iv p3, iv p4, iv p5, .val (.long q6), .second, iv (p1 &&& (16383 : Int32)), iv (1 : Int32), .unset, .unset, .unset, .unset] [(.int (0 : Int32))] _
        refine XS.istore X0.here hx rfl (hb hby at_31) rfl (l' := #[iv p1, iv p2, iv p3, iv p4, iv p5, .val (.long q6), .second, iv (p1 &&& (16383 : Int32)), iv (1 : Int32), iv (0 : Int32), .unset, .unset, .unset]) rfl ?_
        show SS p e below m s₁ 33 #[iv p1, iv p2, iv p3, iv p4, iv p5, .val (.long q6), .second, iv (p1 &&& (16383 : Int32)), iv (1 : Int32), iv (0 : Int32), .unset, .unset, .unset] [] _
        refine XS.iload X0.here hx rfl (hb hby at_33) rfl ?_
        show SS p e below m s₁ 35 #[iv p1, iv p2, iv p3, iv p4, iv p5, .val (.long q6), .second, iv (p1 &&& (16383 : Int32)), iv (1 : Int32), iv (0 : Int32), .unset, .unset, .unset] [(.int (p1 &&& (16383 : Int32)))] _
        refine XS.istore X0.here hx rfl (hb hby at_35) rfl (l' := #[iv p1, iv p2, iv p3, iv p4, iv p5, .val (.long q6), .second, iv (p1 &&& (16383 : Int32)), iv (1 : Int32), iv (0 : Int32), iv (p1 &&& (16383 : Int32)), .unset, .unset]) rfl ?_
        show SS p e below m s₁ 37 #[iv p1, iv p2, iv p3, iv p4, iv p5, .val (.long q6), .second, iv (p1 &&& (16383 : Int32)), iv (1 : Int32), iv (0 : Int32), iv (p1 &&& (16383 : Int32)), .unset, .unset] [] _
        refine XS.iload X0.here hx rfl (hb hby at_37) rfl ?_
        show SS p e below m s₁ 39 #[iv p1, iv p2, iv p3, iv p4, iv p5, .val (.long q6), .second, iv (p1 &&& (16383 : Int32)), iv (1 : Int32), iv (0 : Int32), iv (p1 &&& (16383 : Int32)), .unset, .unset] [(.int (1 : Int32))] _
        refine XS.ifNo X0.here hx rfl (hb hby at_39) rfl ((if0 _ _).trans (feq (by decide : ¬ ((1 : Int32) = (0 : Int32)))).1) ?_
        show SS p e below m s₁ 42 #[iv p1, iv p2, iv p3, iv p4, iv p5, .val (.long q6), .second, iv (p1 &&& (16383 : Int32)), iv (1 : Int32), iv (0 : Int32), iv (p1 &&& (16383 : Int32)), .unset, .unset] [] _
        refine XS.iload X0.here hx rfl (hb hby at_42) rfl ?_
        show SS p e below m s₁ 44 #[iv p1, iv p2, iv p3, iv p4, iv p5, .val (.long q6), .second, iv (p1 &&& (16383 : Int32)), iv (1 : Int32), iv (0 : Int32), iv (p1 &&& (16383 : Int32)), .unset, .unset] [(.int (p1 &&& (16383 : Int32)))] _
        refine X0.ldcInt hx hown (mvT hZ (hw _ (List.mem_of_getElem? (i := 0) rfl))) (g := (mkF m 44 #[iv p1, iv p2, iv p3, iv p4, iv p5, .val (.long q6), .second, iv (p1 &&& (16383 : Int32)), iv (1 : Int32), iv (0 : Int32), iv (p1 &&& (16383 : Int32)), .unset, .unset] [(.int (p1 &&& (16383 : Int32)))])) rfl (hb hby at_44) _ ?_
        show SS p e below m s₁ 46 #[iv p1, iv p2, iv p3, iv p4, iv p5, .val (.long q6), .second, iv (p1 &&& (16383 : Int32)), iv (1 : Int32), iv (0 : Int32), iv (p1 &&& (16383 : Int32)), .unset, .unset] [(.int (32768 : Int32)), (.int (p1 &&& (16383 : Int32)))] _
        refine XS.ior X0.here hx rfl (hb hby at_46) rfl ?_
        show SS p e below m s₁ 47 #[iv p1, iv p2, iv p3, iv p4, iv p5, .val (.long q6), .second, iv (p1 &&& (16383 : Int32)), iv (1 : Int32), iv (0 : Int32), iv (p1 &&& (16383 : Int32)), .unset, .unset] [(.int ((p1 &&& (16383 : Int32)) ||| (32768 : Int32)))] _
        refine XS.istore X0.here hx rfl (hb hby at_47) rfl (l' := #[iv p1, iv p2, iv p3, iv p4, iv p5, .val (.long q6), .second, iv (p1 &&& (16383 : Int32)), iv (1 : Int32), iv (0 : Int32), iv ((p1 &&& (16383 : Int32)) ||| (32768 : Int32)), .unset, .unset]) rfl ?_
        show SS p e below m s₁ 49 #[iv p1, iv p2, iv p3, iv p4, iv p5, .val (.long q6), .second, iv (p1 &&& (16383 : Int32)), iv (1 : Int32), iv (0 : Int32), iv ((p1 &&& (16383 : Int32)) ||| (32768 : Int32)), .unset, .unset] [] _
        refine XS.iload X0.here hx rfl (hb hby at_49) rfl ?_
        show SS p e below m s₁ 51 #[iv p1, iv p2, iv p3, iv p4, iv p5, .val (.long q6), .second, iv (p1 &&& (16383 : Int32)), iv (1 : Int32), iv (0 : Int32), iv ((p1 &&& (16383 : Int32)) ||| (32768 : Int32)), .unset, .unset] [(.int (0 : Int32))] _
        refine XS.ifYes X0.here hx rfl (pc0 := 51) (pc' := 62) rfl (hb hby at_51) rfl ((if0 _ _).trans (teq (by decide : ((0 : Int32) = (0 : Int32)))).1) (by decide) (by decide) ?_
        show SS p e below m s₁ 62 #[iv p1, iv p2, iv p3, iv p4, iv p5, .val (.long q6), .second, iv (p1 &&& (16383 : Int32)), iv (1 : Int32), iv (0 : Int32), iv ((p1 &&& (16383 : Int32)) ||| (32768 : Int32)), .unset, .unset] [] _
        exact kk)
      obtain ⟨T22, h22, X22, e22, E22, A22, D22, -, st22⟩ := newO X0 hx hZ hown (hw _ (List.mem_of_getElem? (i := 1) rfl)) (hw _ (List.mem_of_getElem? (i := 2) rfl)) (hw _ (List.mem_of_getElem? (i := 3) rfl)) e0 (g := (mkF m 62 #[iv p1, iv p2, iv p3, iv p4, iv p5, .val (.long q6), .second, iv (p1 &&& (16383 : Int32)), iv (1 : Int32), iv (0 : Int32), iv ((p1 &&& (16383 : Int32)) ||| (32768 : Int32)), .unset, .unset] [])) rfl (hb hby at_62) (by decide) (by decide)
      obtain ⟨b22, g22⟩ : ∃ z, z = h0.size := ⟨_, rfl⟩
      rw [← g22] at A22 D22 st22
      have g_b22 : n0 ≤ b22 := Nat.le_trans Z0 (Nat.le_of_eq g22.symm)
      have Z22 : n0 ≤ h22.size := Nat.le_trans Z0 E22.1
      have F_majorVersion_b22 : Fld Z h22 b22 "com/example/reston/reston/codec/Envelope" "majorVersion" "I" (.int (0 : Int32)) := D22 (Or.inr (hw _ (List.mem_of_getElem? (i := 16) rfl))) (ty := .int) (by decide)
      have F_minorVersion_b22 : Fld Z h22 b22 "com/example/reston/reston/codec/Envelope" "minorVersion" "I" (.int (0 : Int32)) := D22 (Or.inr (hw _ (List.mem_of_getElem? (i := 18) rfl))) (ty := .int) (by decide)
      have F_flags_b22 : Fld Z h22 b22 "com/example/reston/reston/codec/Envelope" "flags" "I" (.int (0 : Int32)) := D22 (Or.inr (hw _ (List.mem_of_getElem? (i := 20) rfl))) (ty := .int) (by decide)
      have F_sessionId_b22 : Fld Z h22 b22 "com/example/reston/reston/codec/Envelope" "sessionId" "I" (.int (0 : Int32)) := D22 (Or.inr (hw _ (List.mem_of_getElem? (i := 22) rfl))) (ty := .int) (by decide)
      have F_requestId_b22 : Fld Z h22 b22 "com/example/reston/reston/codec/Envelope" "requestId" "I" (.int (0 : Int32)) := D22 (Or.inr (hw _ (List.mem_of_getElem? (i := 24) rfl))) (ty := .int) (by decide)
      have F_sequenceNumber_b22 : Fld Z h22 b22 "com/example/reston/reston/codec/Envelope" "sequenceNumber" "I" (.int (0 : Int32)) := D22 (Or.inr (hw _ (List.mem_of_getElem? (i := 26) rfl))) (ty := .int) (by decide)
      have F_messageLength_b22 : Fld Z h22 b22 "com/example/reston/reston/codec/Envelope" "messageLength" "J" (.long (0 : Int64)) := D22 (Or.inr (hw _ (List.mem_of_getElem? (i := 28) rfl))) (ty := .long) (by decide)
      have pre23 : ∀ t, SS p e below m T22 81 #[iv p1, iv p2, iv p3, iv p4, iv p5, .val (.long q6), .second, iv (p1 &&& (16383 : Int32)), iv (1 : Int32), iv (0 : Int32), iv ((p1 &&& (16383 : Int32)) ||| (32768 : Int32)), .unset, .unset] [(.long q6), (.int (p4 ^^^ p5)), (.int (p3 ^^^ p4)), (.int p5), (.int ((p1 &&& (16383 : Int32)) ||| (32768 : Int32))), (.int p4), (.int p3), (.ref b22), (.ref b22)] t → B t := fun t kk => pre21 t (by
        refine st22 _ ?_
        show SS p e below m T22 65 #[iv p1, iv p2, iv p3, iv p4, iv p5, .val (.long q6), .second, iv (p1 &&& (16383 : Int32)), iv (1 : Int32), iv (0 : Int32), iv ((p1 &&& (16383 : Int32)) ||| (32768 : Int32)), .unset, .unset] [(.ref b22)] _
        refine XS.dup X22.here hx rfl (hb hby at_65) rfl rfl ?_
        show SS p e below m T22 66 #[iv p1, iv p2, iv p3, iv p4, iv p5, .val (.long q6), .second, iv (p1 &&& (16383 : Int32)), iv (1 : Int32), iv (0 : Int32), iv ((p1 &&& (16383 : Int32)) ||| (32768 : Int32)), .unset, .unset] [(.ref b22), (.ref b22)] _
        refine XS.iloadN X22.here hx rfl (hb hby at_66) rfl ?_
        show SS p e below m T22 67 #[iv p1, iv p2, iv p3, iv p4, iv p5, .val (.long q6), .second, iv (p1 &&& (16383 : Int32)), iv (1 : Int32), iv (0 : Int32), iv ((p1 &&& (16383 : Int32)) ||| (32768 : Int32)), .unset, .unset] [(.int p3), (.ref b22), (.ref b22)] _
        refine XS.iloadN X22.here hx rfl (hb hby at_67) rfl ?_
        show SS p e below m T22 68 #[iv p1, iv p2, iv p3, iv p4, iv p5, .val (.long q6), .second, iv (p1 &&& (16383 : Int32)), iv (1 : Int32), iv (0 : Int32), iv ((p1 &&& (16383 : Int32)) ||| (32768 : Int32)), .unset, .unset] [(.int p4), (.int p3), (.ref b22), (.ref b22)] _
        refine XS.iload X22.here hx rfl (hb hby at_68) rfl ?_
        show SS p e below m T22 70 #[iv p1, iv p2, iv p3, iv p4, iv p5, .val (.long q6), .second, iv (p1 &&& (16383 : Int32)), iv (1 : Int32), iv (0 : Int32), iv ((p1 &&& (16383 : Int32)) ||| (32768 : Int32)), .unset, .unset] [(.int ((p1 &&& (16383 : Int32)) ||| (32768 : Int32))), (.int p4), (.int p3), (.ref b22), (.ref b22)] _
        refine XS.iload X22.here hx rfl (hb hby at_70) rfl ?_
        show SS p e below m T22 72 #[iv p1, iv p2, iv p3, iv p4, iv p5, .val (.long q6), .second, iv (p1 &&& (16383 : Int32)), iv (1 : Int32), iv (0 : Int32), iv ((p1 &&& (16383 : Int32)) ||| (32768 : Int32)), .unset, .unset] [(.int p5), (.int ((p1 &&& (16383 : Int32)) ||| (32768 : Int32))), (.int p4), (.int p3), (.ref b22), (.ref b22)] _
        refine XS.iloadN X22.here hx rfl (hb hby at_72) rfl ?_
        show SS p e below m T22 73 #[iv p1, iv p2, iv p3, iv p4, iv p5, .val (.long q6), .second, iv (p1 &&& (16383 : Int32)), iv (1 : Int32), iv (0 : Int32), iv ((p1 &&& (16383 : Int32)) ||| (32768 : Int32)), .unset, .unset] [(.int p3), (.int p5), (.int ((p1 &&& (16383 : Int32)) ||| (32768 : Int32))), (.int p4), (.int p3), (.ref b22), (.ref b22)] _
        refine XS.iloadN X22.here hx rfl (hb hby at_73) rfl ?_
        show SS p e below m T22 74 #[iv p1, iv p2, iv p3, iv p4, iv p5, .val (.long q6), .second, iv (p1 &&& (16383 : Int32)), iv (1 : Int32), iv (0 : Int32), iv ((p1 &&& (16383 : Int32)) ||| (32768 : Int32)), .unset, .unset] [(.int p4), (.int p3), (.int p5), (.int ((p1 &&& (16383 : Int32)) ||| (32768 : Int32))), (.int p4), (.int p3), (.ref b22), (.ref b22)] _
        refine XS.ixor X22.here hx rfl (hb hby at_74) rfl ?_
        show SS p e below m T22 75 #[iv p1, iv p2, iv p3, iv p4, iv p5, .val (.long q6), .second, iv (p1 &&& (16383 : Int32)), iv (1 : Int32), iv (0 : Int32), iv ((p1 &&& (16383 : Int32)) ||| (32768 : Int32)), .unset, .unset] [(.int (p3 ^^^ p4)), (.int p5), (.int ((p1 &&& (16383 : Int32)) ||| (32768 : Int32))), (.int p4), (.int p3), (.ref b22), (.ref b22)] _
        refine XS.iloadN X22.here hx rfl (hb hby at_75) rfl ?_
        show SS p e below m T22 76 #[iv p1, iv p2, iv p3, iv p4, iv p5, .val (.long q6), .second, iv (p1 &&& (16383 : Int32)), iv (1 : Int32), iv (0 : Int32), iv ((p1 &&& (16383 : Int32)) ||| (32768 : Int32)), .unset, .unset] [(.int p4), (.int (p3 ^^^ p4)), (.int p5), (.int ((p1 &&& (16383 : Int32)) ||| (32768 : Int32))), (.int p4), (.int p3), (.ref b22), (.ref b22)] _
        refine XS.iload X22.here hx rfl (hb hby at_76) rfl ?_
        show SS p e below m T22 78 #[iv p1, iv p2, iv p3, iv p4, iv p5, .val (.long q6), .second, iv (p1 &&& (16383 : Int32)), iv (1 : Int32), iv (0 : Int32), iv ((p1 &&& (16383 : Int32)) ||| (32768 : Int32)), .unset, .unset] [(.int p5), (.int p4), (.int (p3 ^^^ p4)), (.int p5), (.int ((p1 &&& (16383 : Int32)) ||| (32768 : Int32))), (.int p4), (.int p3), (.ref b22), (.ref b22)] _
        refine XS.ixor X22.here hx rfl (hb hby at_78) rfl ?_
        show SS p e below m T22 79 #[iv p1, iv p2, iv p3, iv p4, iv p5, .val (.long q6), .second, iv (p1 &&& (16383 : Int32)), iv (1 : Int32), iv (0 : Int32), iv ((p1 &&& (16383 : Int32)) ||| (32768 : Int32)), .unset, .unset] [(.int (p4 ^^^ p5)), (.int (p3 ^^^ p4)), (.int p5), (.int ((p1 &&& (16383 : Int32)) ||| (32768 : Int32))), (.int p4), (.int p3), (.ref b22), (.ref b22)] _
        refine XS.lload X22.here hx rfl (hb hby at_79) rfl ?_
        show SS p e below m T22 81 #[iv p1, iv p2, iv p3, iv p4, iv p5, .val (.long q6), .second, iv (p1 &&& (16383 : Int32)), iv (1 : Int32), iv (0 : Int32), iv ((p1 &&& (16383 : Int32)) ||| (32768 : Int32)), .unset, .unset] [(.long q6), (.int (p4 ^^^ p5)), (.int (p3 ^^^ p4)), (.int p5), (.int ((p1 &&& (16383 : Int32)) ||| (32768 : Int32))), (.int p4), (.int p3), (.ref b22), (.ref b22)] _
        exact kk)
      obtain ⟨_, _, ⟨T24, L24, k24, n24⟩, -, X24, ⟨Lc24, hQ24, l24, y24, z24⟩, st24⟩ := X22.specialBack hx (y := (⟨"com/example/reston/reston/codec/Envelope", "<init>", "(IIIIIIJ)V"⟩ : MethodName)) rfl hown (mvT hZ (hw _ (List.mem_of_getElem? (i := 4) rfl))) (mvT hZ (hw _ (List.mem_of_getElem? (i := 5) rfl))) (mvT hZ (hw _ (List.mem_of_getElem? (i := 6) rfl))) (by decide) (backOf (W := 1) (rm1 l Z a0 hw [] b22 p3 p4 ((p1 &&& (16383 : Int32)) ||| (32768 : Int32)) p5 (p3 ^^^ p4) (p4 ^^^ p5) q6 h22 n0 Z22 A22 g_b22 F_majorVersion_b22 F_minorVersion_b22 F_flags_b22 F_sessionId_b22 F_requestId_b22 F_sequenceNumber_b22 F_messageLength_b22) hZ (hw _ (List.mem_of_getElem? (i := 6) rfl)) (hw _ (List.mem_of_getElem? (i := 3) rfl)) (by decide) (by decide)) (g := (mkF m 81 #[iv p1, iv p2, iv p3, iv p4, iv p5, .val (.long q6), .second, iv (p1 &&& (16383 : Int32)), iv (1 : Int32), iv (0 : Int32), iv ((p1 &&& (16383 : Int32)) ||| (32768 : Int32)), .unset, .unset] [(.long q6), (.int (p4 ^^^ p5)), (.int (p3 ^^^ p4)), (.int p5), (.int ((p1 &&& (16383 : Int32)) ||| (32768 : Int32))), (.int p4), (.int p3), (.ref b22), (.ref b22)])) rfl (by rw [hml]; rfl) (Steps.refl _) (a := b22) (argsL := [(.int p3), (.int p4), (.int ((p1 &&& (16383 : Int32)) ||| (32768 : Int32))), (.int p5), (.int (p3 ^^^ p4)), (.int (p4 ^^^ p5)), (.long q6)]) (rest := [(.ref b22)]) (lenOf pd_1 rfl) rfl (by show 2 * 0 + _ ≤ _; exact Nat.le_of_eq rfl) (hb hby at_81) (fun _ _ => ⟨rfl, e22, (by decide : 1 + 0 ≤ _), (by decide : 7 + 0 ≤ _)⟩)
      dsimp only [Pt.U, Pt.locs, Pt.cells, Pt.slots] at X24 l24 y24 z24 st24 hQ24
      subst l24 y24 z24
      obtain ⟨rfl, N24q, K24, E24, F24⟩ := hQ24
      have Z24 : n0 ≤ T24.heap.size := Nat.le_trans Z22 K24.1
      have N24 := Fr.app N0 N24q
      have pre25 : ∀ t, SS p e below m T24 105 #[iv p1, iv p2, iv p3, iv p4, iv p5, .val (.long q6), .second, iv (p1 &&& (16383 : Int32)), iv (1 : Int32), iv (0 : Int32), iv ((p1 &&& (16383 : Int32)) ||| (32768 : Int32)), rv b22, iv (0 : Int32)] [(.ref b22)] t → B t := fun t kk => pre23 t (by
        refine st24.trans ?_
        show SS p e below m T24 84 #[iv p1, iv p2, iv p3, iv p4, iv p5, .val (.long q6), .second, iv (p1 &&& (16383 : Int32)), iv (1 : Int32), iv (0 : Int32), iv ((p1 &&& (16383 : Int32)) ||| (32768 : Int32)), .unset, .unset] [(.ref b22)] _
        refine XS.astore X24.here hx rfl (hb hby at_84) rfl rfl (l' := #[iv p1, iv p2, iv p3, iv p4, iv p5, .val (.long q6), .second, iv (p1 &&& (16383 : Int32)), iv (1 : Int32), iv (0 : Int32), iv ((p1 &&& (16383 : Int32)) ||| (32768 : Int32)), rv b22, .unset]) rfl ?_
        show SS p e below m T24 86 #[iv p1, iv p2, iv p3, iv p4, iv p5, .val (.long q6), .second, iv (p1 &&& (16383 : Int32)), iv (1 : Int32), iv (0 : Int32), iv ((p1 &&& (16383 : Int32)) ||| (32768 : Int32)), rv b22, .unset] [] _
        refine XS.iload X24.here hx rfl (hb hby at_86) rfl ?_
        show SS p e below m T24 88 #[iv p1, iv p2, iv p3, iv p4, iv p5, .val (.long q6), .second, iv (p1 &&& (16383 : Int32)), iv (1 : Int32), iv (0 : Int32), iv ((p1 &&& (16383 : Int32)) ||| (32768 : Int32)), rv b22, .unset] [(.int (1 : Int32))] _
        refine XS.ifYes X24.here hx rfl (pc0 := 88) (pc' := 100) rfl (hb hby at_88) rfl ((if0 _ _).trans (feq (by decide : ¬ ((1 : Int32) = (0 : Int32)))).2) (by decide) (by decide) ?_
        show SS p e below m T24 100 #[iv p1, iv p2, iv p3, iv p4, iv p5, .val (.long q6), .second, iv (p1 &&& (16383 : Int32)), iv (1 : Int32), iv (0 : Int32), iv ((p1 &&& (16383 : Int32)) ||| (32768 : Int32)), rv b22, .unset] [] _
        refine XS.iconst X24.here hx rfl (hb hby at_100) ?_
        show SS p e below m T24 101 #[iv p1, iv p2, iv p3, iv p4, iv p5, .val (.long q6), .second, iv (p1 &&& (16383 : Int32)), iv (1 : Int32), iv (0 : Int32), iv ((p1 &&& (16383 : Int32)) ||| (32768 : Int32)), rv b22, .unset] [(.int (0 : Int32))] _
        refine XS.istore X24.here hx rfl (hb hby at_101) rfl (l' := #[iv p1, iv p2, iv p3, iv p4, iv p5, .val (.long q6), .second, iv (p1 &&& (16383 : Int32)), iv (1 : Int32), iv (0 : Int32), iv ((p1 &&& (16383 : Int32)) ||| (32768 : Int32)), rv b22, iv (0 : Int32)]) rfl ?_
        show SS p e below m T24 103 #[iv p1, iv p2, iv p3, iv p4, iv p5, .val (.long q6), .second, iv (p1 &&& (16383 : Int32)), iv (1 : Int32), iv (0 : Int32), iv ((p1 &&& (16383 : Int32)) ||| (32768 : Int32)), rv b22, iv (0 : Int32)] [] _
        refine XS.aload X24.here hx rfl (hb hby at_103) rfl rfl ?_
        show SS p e below m T24 105 #[iv p1, iv p2, iv p3, iv p4, iv p5, .val (.long q6), .second, iv (p1 &&& (16383 : Int32)), iv (1 : Int32), iv (0 : Int32), iv ((p1 &&& (16383 : Int32)) ||| (32768 : Int32)), rv b22, iv (0 : Int32)] [(.ref b22)] _
        exact kk)
      obtain ⟨cq26, kq26, q26a, q26b, q26c⟩ := isOf hZ rfl E24
      obtain ⟨_, _, ⟨T26, L26, k26, n26⟩, -, X26, ⟨Lc26, hQ26, l26, y26, z26⟩, st26⟩ := X24.virtualBack hx (y := (⟨"com/example/reston/reston/codec/Envelope", "isPlain", "()Z"⟩ : MethodName)) (z := (⟨"com/example/reston/reston/codec/Envelope", "isPlain", "()Z"⟩ : MethodName)) hown (mvT hZ (hw _ (List.mem_of_getElem? (i := 29) rfl))) (mvT hZ (hw _ (List.mem_of_getElem? (i := 30) rfl))) (notFace_of_selects (args := #[]) (mvT hZ (hw _ (List.mem_of_getElem? (i := 32) rfl)))) (mvT hZ (hw _ (List.mem_of_getElem? (i := 32) rfl))) (mvT hZ (hw _ (List.mem_of_getElem? (i := 31) rfl))) (by decide) (backOf (W := 0) (rm4 l Z a0 hw [] b22 ((p1 &&& (16383 : Int32)) ||| (32768 : Int32)) T24.heap n0 Z24 F24) hZ (hw _ (List.mem_of_getElem? (i := 33) rfl)) (hw _ (List.mem_of_getElem? (i := 3) rfl)) (by decide) (by decide)) q26a q26c (g := (mkF m 105 #[iv p1, iv p2, iv p3, iv p4, iv p5, .val (.long q6), .second, iv (p1 &&& (16383 : Int32)), iv (1 : Int32), iv (0 : Int32), iv ((p1 &&& (16383 : Int32)) ||| (32768 : Int32)), rv b22, iv (0 : Int32)] [(.ref b22)])) rfl (by rw [hml]; rfl) (Steps.refl _) (argsL := []) (rest := []) (lenOf pd_2 rfl) rfl (by show 2 * 0 + _ ≤ _; exact Nat.le_of_eq rfl) (hb hby at_105) (fun _ _ => ⟨rfl, rfl, (by decide : 1 + 0 ≤ _), (by decide : 7 + 0 ≤ _)⟩)
      dsimp only [Pt.U, Pt.locs, Pt.cells, Pt.slots] at X26 l26 y26 z26 st26 hQ26
      subst l26 y26 z26
      obtain ⟨rfl, N26q, e26⟩ := hQ26
      have N26 := Fr.app N24 N26q
      have pre27 : ∀ t, SS p e below m T26 118 #[iv p1, iv p2, iv p3, iv p4, iv p5, .val (.long q6), .second, iv (p1 &&& (16383 : Int32)), iv (1 : Int32), iv (0 : Int32), iv ((p1 &&& (16383 : Int32)) ||| (32768 : Int32)), rv b22, iv (0 : Int32)] [(.int (1 : Int32))] t → B t := fun t kk => pre25 t (by
        refine st26.trans ?_
        show SS p e below m T26 108 #[iv p1, iv p2, iv p3, iv p4, iv p5, .val (.long q6), .second, iv (p1 &&& (16383 : Int32)), iv (1 : Int32), iv (0 : Int32), iv ((p1 &&& (16383 : Int32)) ||| (32768 : Int32)), rv b22, iv (0 : Int32)] [(.int (f4 ((p1 &&& (16383 : Int32)) ||| (32768 : Int32))))] _
        refine XS.iload X26.here hx rfl (hb hby at_108) rfl ?_
        show SS p e below m T26 110 #[iv p1, iv p2, iv p3, iv p4, iv p5, .val (.long q6), .second, iv (p1 &&& (16383 : Int32)), iv (1 : Int32), iv (0 : Int32), iv ((p1 &&& (16383 : Int32)) ||| (32768 : Int32)), rv b22, iv (0 : Int32)] [(.int (0 : Int32)), (.int (f4 ((p1 &&& (16383 : Int32)) ||| (32768 : Int32))))] _
        refine XS.icmpNo X26.here hx rfl (hb hby at_110) rfl (teq (own_l0_2 p1  )).2 ?_
        show SS p e below m T26 113 #[iv p1, iv p2, iv p3, iv p4, iv p5, .val (.long q6), .second, iv (p1 &&& (16383 : Int32)), iv (1 : Int32), iv (0 : Int32), iv ((p1 &&& (16383 : Int32)) ||| (32768 : Int32)), rv b22, iv (0 : Int32)] [] _
        refine XS.iconst X26.here hx rfl (hb hby at_113) ?_
        show SS p e below m T26 114 #[iv p1, iv p2, iv p3, iv p4, iv p5, .val (.long q6), .second, iv (p1 &&& (16383 : Int32)), iv (1 : Int32), iv (0 : Int32), iv ((p1 &&& (16383 : Int32)) ||| (32768 : Int32)), rv b22, iv (0 : Int32)] [(.int (1 : Int32))] _
        refine XS.goto X26.here hx rfl (pc0 := 114) (pc' := 118) rfl (hb hby at_114) (by decide) (by decide) ?_
        show SS p e below m T26 118 #[iv p1, iv p2, iv p3, iv p4, iv p5, .val (.long q6), .second, iv (p1 &&& (16383 : Int32)), iv (1 : Int32), iv (0 : Int32), iv ((p1 &&& (16383 : Int32)) ||| (32768 : Int32)), rv b22, iv (0 : Int32)] [(.int (1 : Int32))] _
        exact kk)
      obtain ⟨fs, hr, hrun, hended, hW, hsame⟩ := X26.leave (v := some (.int (1 : Int32))) (fun h => by rw [Bd.returns] at h; cases h)
      refine ⟨_, _, hB _ (pre27 _ ?_), hrun, hended, _, _, rfl, ?_, ⟨_, rfl⟩, hW, hsame.mono (by decide) (by decide)⟩
      · exact retN X26 hx (t := .boolean) Bd.returns (by simp) (hb hby at_118) hr
      · exact ⟨rfl, N26⟩
    · have pre28 : ∀ t, SS p e below m s₁ 62 #[iv p1, iv p2, iv p3, iv p4, iv p5, .val (.long q6), .second, iv (p1 &&& (16383 : Int32)), iv (1 : Int32), iv (1 : Int32), iv (((p1 &&& (16383 : Int32)) ||| (32768 : Int32)) ||| (16384 : Int32)), .unset, .unset] [] t → B t := fun t kk => pre19 t (by
        refine XS.ifNo X0.here hx rfl (hb hby at_23) rfl ((if0 _ _).trans (feq hc20).1) ?_
        show SS p e below m s₁ 26 #[iv p1, iv p2, iv p3, iv p4, iv p5, .val (.long q6), .second, iv (p1 &&& (16383 : Int32)), iv (1 : Int32), .unset, .unset, .unset, .unset] [] _
        refine XS.iconst X0.here hx rfl (hb hby at_26) ?_
        show SS p e below m s₁ 27 #[iv p1, iv p2, iv p3, iv p4, iv p5, .val (.long q6), .second, iv (p1 &&& (16383 : Int32)), iv (1 : Int32), .unset, .unset, .unset, .unset] [(.int (1 : Int32))] _
        refine XS.goto X0.here hx rfl (pc0 := 27) (pc' := 31) rfl (hb hby at_27) (by decide) (by decide) ?_
        show SS p e below m s₁ 31 #[iv p1, iv p2, iv p3, iv p4, iv p5, .val (.long q6), .second, iv (p1 &&& (16383 : Int32)), iv (1 : Int32), .unset, .unset, .unset, .unset] [(.int (1 : Int32))] _
        refine XS.istore X0.here hx rfl (hb hby at_31) rfl (l' := #[iv p1, iv p2, iv p3, iv p4, iv p5, .val (.long q6), .second, iv (p1 &&& (16383 : Int32)), iv (1 : Int32), iv (1 : Int32), .unset, .unset, .unset]) rfl ?_
        show SS p e below m s₁ 33 #[iv p1, iv p2, iv p3, iv p4, iv p5, .val (.long q6), .second, iv (p1 &&& (16383 : Int32)), iv (1 : Int32), iv (1 : Int32), .unset, .unset, .unset] [] _
        refine XS.iload X0.here hx rfl (hb hby at_33) rfl ?_
        show SS p e below m s₁ 35 #[iv p1, iv p2, iv p3, iv p4, iv p5, .val (.long q6), .second, iv (p1 &&& (16383 : Int32)), iv (1 : Int32), iv (1 : Int32), .unset, .unset, .unset] [(.int (p1 &&& (16383 : Int32)))] _
        refine XS.istore X0.here hx rfl (hb hby at_35) rfl (l' := #[iv p1, iv p2, iv p3, iv p4, iv p5, .val (.long q6), .second, iv (p1 &&& (16383 : Int32)), iv (1 : Int32), iv (1 : Int32), iv (p1 &&& (16383 : Int32)), .unset, .unset]) rfl ?_
        show SS p e below m s₁ 37 #[iv p1, iv p2, iv p3, iv p4, iv p5, .val (.long q6), .second, iv (p1 &&& (16383 : Int32)), iv (1 : Int32), iv (1 : Int32), iv (p1 &&& (16383 : Int32)), .unset, .unset] [] _
        refine XS.iload X0.here hx rfl (hb hby at_37) rfl ?_
        show SS p e below m s₁ 39 #[iv p1, iv p2, iv p3, iv p4, iv p5, .val (.long q6), .second, iv (p1 &&& (16383 : Int32)), iv (1 : Int32), iv (1 : Int32), iv (p1 &&& (16383 : Int32)), .unset, .unset] [(.int (1 : Int32))] _
        refine XS.ifNo X0.here hx rfl (hb hby at_39) rfl ((if0 _ _).trans (feq (by decide : ¬ ((1 : Int32) = (0 : Int32)))).1) ?_
        show SS p e below m s₁ 42 #[iv p1, iv p2, iv p3, iv p4, iv p5, .val (.long q6), .second, iv (p1 &&& (16383 : Int32)), iv (1 : Int32), iv (1 : Int32), iv (p1 &&& (16383 : Int32)), .unset, .unset] [] _
        refine XS.iload X0.here hx rfl (hb hby at_42) rfl ?_
        show SS p e below m s₁ 44 #[iv p1, iv p2, iv p3, iv p4, iv p5, .val (.long q6), .second, iv (p1 &&& (16383 : Int32)), iv (1 : Int32), iv (1 : Int32), iv (p1 &&& (16383 : Int32)), .unset, .unset] [(.int (p1 &&& (16383 : Int32)))] _
        refine X0.ldcInt hx hown (mvT hZ (hw _ (List.mem_of_getElem? (i := 0) rfl))) (g := (mkF m 44 #[iv p1, iv p2, iv p3, iv p4, iv p5, .val (.long q6), .second, iv (p1 &&& (16383 : Int32)), iv (1 : Int32), iv (1 : Int32), iv (p1 &&& (16383 : Int32)), .unset, .unset] [(.int (p1 &&& (16383 : Int32)))])) rfl (hb hby at_44) _ ?_
        show SS p e below m s₁ 46 #[iv p1, iv p2, iv p3, iv p4, iv p5, .val (.long q6), .second, iv (p1 &&& (16383 : Int32)), iv (1 : Int32), iv (1 : Int32), iv (p1 &&& (16383 : Int32)), .unset, .unset] [(.int (32768 : Int32)), (.int (p1 &&& (16383 : Int32)))] _
        refine XS.ior X0.here hx rfl (hb hby at_46) rfl ?_
        show SS p e below m s₁ 47 #[iv p1, iv p2, iv p3, iv p4, iv p5, .val (.long q6), .second, iv (p1 &&& (16383 : Int32)), iv (1 : Int32), iv (1 : Int32), iv (p1 &&& (16383 : Int32)), .unset, .unset] [(.int ((p1 &&& (16383 : Int32)) ||| (32768 : Int32)))] _
        refine XS.istore X0.here hx rfl (hb hby at_47) rfl (l' := #[iv p1, iv p2, iv p3, iv p4, iv p5, .val (.long q6), .second, iv (p1 &&& (16383 : Int32)), iv (1 : Int32), iv (1 : Int32), iv ((p1 &&& (16383 : Int32)) ||| (32768 : Int32)), .unset, .unset]) rfl ?_
        show SS p e below m s₁ 49 #[iv p1, iv p2, iv p3, iv p4, iv p5, .val (.long q6), .second, iv (p1 &&& (16383 : Int32)), iv (1 : Int32), iv (1 : Int32), iv ((p1 &&& (16383 : Int32)) ||| (32768 : Int32)), .unset, .unset] [] _
        refine XS.iload X0.here hx rfl (hb hby at_49) rfl ?_
        show SS p e below m s₁ 51 #[iv p1, iv p2, iv p3, iv p4, iv p5, .val (.long q6), .second, iv (p1 &&& (16383 : Int32)), iv (1 : Int32), iv (1 : Int32), iv ((p1 &&& (16383 : Int32)) ||| (32768 : Int32)), .unset, .unset] [(.int (1 : Int32))] _
        refine XS.ifNo X0.here hx rfl (hb hby at_51) rfl ((if0 _ _).trans (feq (by decide : ¬ ((1 : Int32) = (0 : Int32)))).1) ?_
        show SS p e below m s₁ 54 #[iv p1, iv p2, iv p3, iv p4, iv p5, .val (.long q6), .second, iv (p1 &&& (16383 : Int32)), iv (1 : Int32), iv (1 : Int32), iv ((p1 &&& (16383 : Int32)) ||| (32768 : Int32)), .unset, .unset] [] _
        refine XS.iload X0.here hx rfl (hb hby at_54) rfl ?_
        show SS p e below m s₁ 56 #[iv p1, iv p2, iv p3, iv p4, iv p5, .val (.long q6), .second, iv (p1 &&& (16383 : Int32)), iv (1 : Int32), iv (1 : Int32), iv ((p1 &&& (16383 : Int32)) ||| (32768 : Int32)), .unset, .unset] [(.int ((p1 &&& (16383 : Int32)) ||| (32768 : Int32)))] _
        refine XS.sipush X0.here hx rfl (hb hby at_56) ?_
        show SS p e below m s₁ 59 #[iv p1, iv p2, iv p3, iv p4, iv p5, .val (.long q6), .second, iv (p1 &&& (16383 : Int32)), iv (1 : Int32), iv (1 : Int32), iv ((p1 &&& (16383 : Int32)) ||| (32768 : Int32)), .unset, .unset] [(.int (16384 : Int32)), (.int ((p1 &&& (16383 : Int32)) ||| (32768 : Int32)))] _
        refine XS.ior X0.here hx rfl (hb hby at_59) rfl ?_
        show SS p e below m s₁ 60 #[iv p1, iv p2, iv p3, iv p4, iv p5, .val (.long q6), .second, iv (p1 &&& (16383 : Int32)), iv (1 : Int32), iv (1 : Int32), iv ((p1 &&& (16383 : Int32)) ||| (32768 : Int32)), .unset, .unset] [(.int (((p1 &&& (16383 : Int32)) ||| (32768 : Int32)) ||| (16384 : Int32)))] _
        refine XS.istore X0.here hx rfl (hb hby at_60) rfl (l' := #[iv p1, iv p2, iv p3, iv p4, iv p5, .val (.long q6), .second, iv (p1 &&& (16383 : Int32)), iv (1 : Int32), iv (1 : Int32), iv (((p1 &&& (16383 : Int32)) ||| (32768 : Int32)) ||| (16384 : Int32)), .unset, .unset]) rfl ?_
        show SS p e below m s₁ 62 #[iv p1, iv p2, iv p3, iv p4, iv p5, .val (.long q6), .second, iv (p1 &&& (16383 : Int32)), iv (1 : Int32), iv (1 : Int32), iv (((p1 &&& (16383 : Int32)) ||| (32768 : Int32)) ||| (16384 : Int32)), .unset, .unset] [] _
        exact kk)
      obtain ⟨T29, h29, X29, e29, E29, A29, D29, -, st29⟩ := newO X0 hx hZ hown (hw _ (List.mem_of_getElem? (i := 1) rfl)) (hw _ (List.mem_of_getElem? (i := 2) rfl)) (hw _ (List.mem_of_getElem? (i := 3) rfl)) e0 (g := (mkF m 62 #[iv p1, iv p2, iv p3, iv p4, iv p5, .val (.long q6), .second, iv (p1 &&& (16383 : Int32)), iv (1 : Int32), iv (1 : Int32), iv (((p1 &&& (16383 : Int32)) ||| (32768 : Int32)) ||| (16384 : Int32)), .unset, .unset] [])) rfl (hb hby at_62) (by decide) (by decide)
      obtain ⟨b29, g29⟩ : ∃ z, z = h0.size := ⟨_, rfl⟩
      rw [← g29] at A29 D29 st29
      have g_b29 : n0 ≤ b29 := Nat.le_trans Z0 (Nat.le_of_eq g29.symm)
      have Z29 : n0 ≤ h29.size := Nat.le_trans Z0 E29.1
      have F_majorVersion_b29 : Fld Z h29 b29 "com/example/reston/reston/codec/Envelope" "majorVersion" "I" (.int (0 : Int32)) := D29 (Or.inr (hw _ (List.mem_of_getElem? (i := 16) rfl))) (ty := .int) (by decide)
      have F_minorVersion_b29 : Fld Z h29 b29 "com/example/reston/reston/codec/Envelope" "minorVersion" "I" (.int (0 : Int32)) := D29 (Or.inr (hw _ (List.mem_of_getElem? (i := 18) rfl))) (ty := .int) (by decide)
      have F_flags_b29 : Fld Z h29 b29 "com/example/reston/reston/codec/Envelope" "flags" "I" (.int (0 : Int32)) := D29 (Or.inr (hw _ (List.mem_of_getElem? (i := 20) rfl))) (ty := .int) (by decide)
      have F_sessionId_b29 : Fld Z h29 b29 "com/example/reston/reston/codec/Envelope" "sessionId" "I" (.int (0 : Int32)) := D29 (Or.inr (hw _ (List.mem_of_getElem? (i := 22) rfl))) (ty := .int) (by decide)
      have F_requestId_b29 : Fld Z h29 b29 "com/example/reston/reston/codec/Envelope" "requestId" "I" (.int (0 : Int32)) := D29 (Or.inr (hw _ (List.mem_of_getElem? (i := 24) rfl))) (ty := .int) (by decide)
      have F_sequenceNumber_b29 : Fld Z h29 b29 "com/example/reston/reston/codec/Envelope" "sequenceNumber" "I" (.int (0 : Int32)) := D29 (Or.inr (hw _ (List.mem_of_getElem? (i := 26) rfl))) (ty := .int) (by decide)
      have F_messageLength_b29 : Fld Z h29 b29 "com/example/reston/reston/codec/Envelope" "messageLength" "J" (.long (0 : Int64)) := D29 (Or.inr (hw _ (List.mem_of_getElem? (i := 28) rfl))) (ty := .long) (by decide)
      have pre30 : ∀ t, SS p e below m T29 81 #[iv p1, iv p2, iv p3, iv p4, iv p5, .val (.long q6), .second, iv (p1 &&& (16383 : Int32)), iv (1 : Int32), iv (1 : Int32), iv (((p1 &&& (16383 : Int32)) ||| (32768 : Int32)) ||| (16384 : Int32)), .unset, .unset] [(.long q6), (.int (p4 ^^^ p5)), (.int (p3 ^^^ p4)), (.int p5), (.int (((p1 &&& (16383 : Int32)) ||| (32768 : Int32)) ||| (16384 : Int32))), (.int p4), (.int p3), (.ref b29), (.ref b29)] t → B t := fun t kk => pre28 t (by
        refine st29 _ ?_
        show SS p e below m T29 65 #[iv p1, iv p2, iv p3, iv p4, iv p5, .val (.long q6), .second, iv (p1 &&& (16383 : Int32)), iv (1 : Int32), iv (1 : Int32), iv (((p1 &&& (16383 : Int32)) ||| (32768 : Int32)) ||| (16384 : Int32)), .unset, .unset] [(.ref b29)] _
        refine XS.dup X29.here hx rfl (hb hby at_65) rfl rfl ?_
        show SS p e below m T29 66 #[iv p1, iv p2, iv p3, iv p4, iv p5, .val (.long q6), .second, iv (p1 &&& (16383 : Int32)), iv (1 : Int32), iv (1 : Int32), iv (((p1 &&& (16383 : Int32)) ||| (32768 : Int32)) ||| (16384 : Int32)), .unset, .unset] [(.ref b29), (.ref b29)] _
        refine XS.iloadN X29.here hx rfl (hb hby at_66) rfl ?_
        show SS p e below m T29 67 #[iv p1, iv p2, iv p3, iv p4, iv p5, .val (.long q6), .second, iv (p1 &&& (16383 : Int32)), iv (1 : Int32), iv (1 : Int32), iv (((p1 &&& (16383 : Int32)) ||| (32768 : Int32)) ||| (16384 : Int32)), .unset, .unset] [(.int p3), (.ref b29), (.ref b29)] _
        refine XS.iloadN X29.here hx rfl (hb hby at_67) rfl ?_
        show SS p e below m T29 68 #[iv p1, iv p2, iv p3, iv p4, iv p5, .val (.long q6), .second, iv (p1 &&& (16383 : Int32)), iv (1 : Int32), iv (1 : Int32), iv (((p1 &&& (16383 : Int32)) ||| (32768 : Int32)) ||| (16384 : Int32)), .unset, .unset] [(.int p4), (.int p3), (.ref b29), (.ref b29)] _
        refine XS.iload X29.here hx rfl (hb hby at_68) rfl ?_
        show SS p e below m T29 70 #[iv p1, iv p2, iv p3, iv p4, iv p5, .val (.long q6), .second, iv (p1 &&& (16383 : Int32)), iv (1 : Int32), iv (1 : Int32), iv (((p1 &&& (16383 : Int32)) ||| (32768 : Int32)) ||| (16384 : Int32)), .unset, .unset] [(.int (((p1 &&& (16383 : Int32)) ||| (32768 : Int32)) ||| (16384 : Int32))), (.int p4), (.int p3), (.ref b29), (.ref b29)] _
        refine XS.iload X29.here hx rfl (hb hby at_70) rfl ?_
        show SS p e below m T29 72 #[iv p1, iv p2, iv p3, iv p4, iv p5, .val (.long q6), .second, iv (p1 &&& (16383 : Int32)), iv (1 : Int32), iv (1 : Int32), iv (((p1 &&& (16383 : Int32)) ||| (32768 : Int32)) ||| (16384 : Int32)), .unset, .unset] [(.int p5), (.int (((p1 &&& (16383 : Int32)) ||| (32768 : Int32)) ||| (16384 : Int32))), (.int p4), (.int p3), (.ref b29), (.ref b29)] _
        refine XS.iloadN X29.here hx rfl (hb hby at_72) rfl ?_
        show SS p e below m T29 73 #[iv p1, iv p2, iv p3, iv p4, iv p5, .val (.long q6), .second, iv (p1 &&& (16383 : Int32)), iv (1 : Int32), iv (1 : Int32), iv (((p1 &&& (16383 : Int32)) ||| (32768 : Int32)) ||| (16384 : Int32)), .unset, .unset] [(.int p3), (.int p5), (.int (((p1 &&& (16383 : Int32)) ||| (32768 : Int32)) ||| (16384 : Int32))), (.int p4), (.int p3), (.ref b29), (.ref b29)] _
        refine XS.iloadN X29.here hx rfl (hb hby at_73) rfl ?_
        show SS p e below m T29 74 #[iv p1, iv p2, iv p3, iv p4, iv p5, .val (.long q6), .second, iv (p1 &&& (16383 : Int32)), iv (1 : Int32), iv (1 : Int32), iv (((p1 &&& (16383 : Int32)) ||| (32768 : Int32)) ||| (16384 : Int32)), .unset, .unset] [(.int p4), (.int p3), (.int p5), (.int (((p1 &&& (16383 : Int32)) ||| (32768 : Int32)) ||| (16384 : Int32))), (.int p4), (.int p3), (.ref b29), (.ref b29)] _
        refine XS.ixor X29.here hx rfl (hb hby at_74) rfl ?_
        show SS p e below m T29 75 #[iv p1, iv p2, iv p3, iv p4, iv p5, .val (.long q6), .second, iv (p1 &&& (16383 : Int32)), iv (1 : Int32), iv (1 : Int32), iv (((p1 &&& (16383 : Int32)) ||| (32768 : Int32)) ||| (16384 : Int32)), .unset, .unset] [(.int (p3 ^^^ p4)), (.int p5), (.int (((p1 &&& (16383 : Int32)) ||| (32768 : Int32)) ||| (16384 : Int32))), (.int p4), (.int p3), (.ref b29), (.ref b29)] _
        refine XS.iloadN X29.here hx rfl (hb hby at_75) rfl ?_
        show SS p e below m T29 76 #[iv p1, iv p2, iv p3, iv p4, iv p5, .val (.long q6), .second, iv (p1 &&& (16383 : Int32)), iv (1 : Int32), iv (1 : Int32), iv (((p1 &&& (16383 : Int32)) ||| (32768 : Int32)) ||| (16384 : Int32)), .unset, .unset] [(.int p4), (.int (p3 ^^^ p4)), (.int p5), (.int (((p1 &&& (16383 : Int32)) ||| (32768 : Int32)) ||| (16384 : Int32))), (.int p4), (.int p3), (.ref b29), (.ref b29)] _
        refine XS.iload X29.here hx rfl (hb hby at_76) rfl ?_
        show SS p e below m T29 78 #[iv p1, iv p2, iv p3, iv p4, iv p5, .val (.long q6), .second, iv (p1 &&& (16383 : Int32)), iv (1 : Int32), iv (1 : Int32), iv (((p1 &&& (16383 : Int32)) ||| (32768 : Int32)) ||| (16384 : Int32)), .unset, .unset] [(.int p5), (.int p4), (.int (p3 ^^^ p4)), (.int p5), (.int (((p1 &&& (16383 : Int32)) ||| (32768 : Int32)) ||| (16384 : Int32))), (.int p4), (.int p3), (.ref b29), (.ref b29)] _
        refine XS.ixor X29.here hx rfl (hb hby at_78) rfl ?_
        show SS p e below m T29 79 #[iv p1, iv p2, iv p3, iv p4, iv p5, .val (.long q6), .second, iv (p1 &&& (16383 : Int32)), iv (1 : Int32), iv (1 : Int32), iv (((p1 &&& (16383 : Int32)) ||| (32768 : Int32)) ||| (16384 : Int32)), .unset, .unset] [(.int (p4 ^^^ p5)), (.int (p3 ^^^ p4)), (.int p5), (.int (((p1 &&& (16383 : Int32)) ||| (32768 : Int32)) ||| (16384 : Int32))), (.int p4), (.int p3), (.ref b29), (.ref b29)] _
        refine XS.lload X29.here hx rfl (hb hby at_79) rfl ?_
        show SS p e below m T29 81 #[iv p1, iv p2, iv p3, iv p4, iv p5, .val (.long q6), .second, iv (p1 &&& (16383 : Int32)), iv (1 : Int32), iv (1 : Int32), iv (((p1 &&& (16383 : Int32)) ||| (32768 : Int32)) ||| (16384 : Int32)), .unset, .unset] [(.long q6), (.int (p4 ^^^ p5)), (.int (p3 ^^^ p4)), (.int p5), (.int (((p1 &&& (16383 : Int32)) ||| (32768 : Int32)) ||| (16384 : Int32))), (.int p4), (.int p3), (.ref b29), (.ref b29)] _
        exact kk)
      obtain ⟨_, _, ⟨T31, L31, k31, n31⟩, -, X31, ⟨Lc31, hQ31, l31, y31, z31⟩, st31⟩ := X29.specialBack hx (y := (⟨"com/example/reston/reston/codec/Envelope", "<init>", "(IIIIIIJ)V"⟩ : MethodName)) rfl hown (mvT hZ (hw _ (List.mem_of_getElem? (i := 4) rfl))) (mvT hZ (hw _ (List.mem_of_getElem? (i := 5) rfl))) (mvT hZ (hw _ (List.mem_of_getElem? (i := 6) rfl))) (by decide) (backOf (W := 1) (rm1 l Z a0 hw [] b29 p3 p4 (((p1 &&& (16383 : Int32)) ||| (32768 : Int32)) ||| (16384 : Int32)) p5 (p3 ^^^ p4) (p4 ^^^ p5) q6 h29 n0 Z29 A29 g_b29 F_majorVersion_b29 F_minorVersion_b29 F_flags_b29 F_sessionId_b29 F_requestId_b29 F_sequenceNumber_b29 F_messageLength_b29) hZ (hw _ (List.mem_of_getElem? (i := 6) rfl)) (hw _ (List.mem_of_getElem? (i := 3) rfl)) (by decide) (by decide)) (g := (mkF m 81 #[iv p1, iv p2, iv p3, iv p4, iv p5, .val (.long q6), .second, iv (p1 &&& (16383 : Int32)), iv (1 : Int32), iv (1 : Int32), iv (((p1 &&& (16383 : Int32)) ||| (32768 : Int32)) ||| (16384 : Int32)), .unset, .unset] [(.long q6), (.int (p4 ^^^ p5)), (.int (p3 ^^^ p4)), (.int p5), (.int (((p1 &&& (16383 : Int32)) ||| (32768 : Int32)) ||| (16384 : Int32))), (.int p4), (.int p3), (.ref b29), (.ref b29)])) rfl (by rw [hml]; rfl) (Steps.refl _) (a := b29) (argsL := [(.int p3), (.int p4), (.int (((p1 &&& (16383 : Int32)) ||| (32768 : Int32)) ||| (16384 : Int32))), (.int p5), (.int (p3 ^^^ p4)), (.int (p4 ^^^ p5)), (.long q6)]) (rest := [(.ref b29)]) (lenOf pd_1 rfl) rfl (by show 2 * 0 + _ ≤ _; exact Nat.le_of_eq rfl) (hb hby at_81) (fun _ _ => ⟨rfl, e29, (by decide : 1 + 0 ≤ _), (by decide : 7 + 0 ≤ _)⟩)
      dsimp only [Pt.U, Pt.locs, Pt.cells, Pt.slots] at X31 l31 y31 z31 st31 hQ31
      subst l31 y31 z31
      obtain ⟨rfl, N31q, K31, E31, F31⟩ := hQ31
      have Z31 : n0 ≤ T31.heap.size := Nat.le_trans Z29 K31.1
      have N31 := Fr.app N0 N31q
      have pre32 : ∀ t, SS p e below m T31 105 #[iv p1, iv p2, iv p3, iv p4, iv p5, .val (.long q6), .second, iv (p1 &&& (16383 : Int32)), iv (1 : Int32), iv (1 : Int32), iv (((p1 &&& (16383 : Int32)) ||| (32768 : Int32)) ||| (16384 : Int32)), rv b29, iv (0 : Int32)] [(.ref b29)] t → B t := fun t kk => pre30 t (by
        refine st31.trans ?_
        show SS p e below m T31 84 #[iv p1, iv p2, iv p3, iv p4, iv p5, .val (.long q6), .second, iv (p1 &&& (16383 : Int32)), iv (1 : Int32), iv (1 : Int32), iv (((p1 &&& (16383 : Int32)) ||| (32768 : Int32)) ||| (16384 : Int32)), .unset, .unset] [(.ref b29)] _
        refine XS.astore X31.here hx rfl (hb hby at_84) rfl rfl (l' := #[iv p1, iv p2, iv p3, iv p4, iv p5, .val (.long q6), .second, iv (p1 &&& (16383 : Int32)), iv (1 : Int32), iv (1 : Int32), iv (((p1 &&& (16383 : Int32)) ||| (32768 : Int32)) ||| (16384 : Int32)), rv b29, .unset]) rfl ?_
        show SS p e below m T31 86 #[iv p1, iv p2, iv p3, iv p4, iv p5, .val (.long q6), .second, iv (p1 &&& (16383 : Int32)), iv (1 : Int32), iv (1 : Int32), iv (((p1 &&& (16383 : Int32)) ||| (32768 : Int32)) ||| (16384 : Int32)), rv b29, .unset] [] _
        refine XS.iload X31.here hx rfl (hb hby at_86) rfl ?_
        show SS p e below m T31 88 #[iv p1, iv p2, iv p3, iv p4, iv p5, .val (.long q6), .second, iv (p1 &&& (16383 : Int32)), iv (1 : Int32), iv (1 : Int32), iv (((p1 &&& (16383 : Int32)) ||| (32768 : Int32)) ||| (16384 : Int32)), rv b29, .unset] [(.int (1 : Int32))] _
        refine XS.ifYes X31.here hx rfl (pc0 := 88) (pc' := 100) rfl (hb hby at_88) rfl ((if0 _ _).trans (feq (by decide : ¬ ((1 : Int32) = (0 : Int32)))).2) (by decide) (by decide) ?_
        show SS p e below m T31 100 #[iv p1, iv p2, iv p3, iv p4, iv p5, .val (.long q6), .second, iv (p1 &&& (16383 : Int32)), iv (1 : Int32), iv (1 : Int32), iv (((p1 &&& (16383 : Int32)) ||| (32768 : Int32)) ||| (16384 : Int32)), rv b29, .unset] [] _
        refine XS.iconst X31.here hx rfl (hb hby at_100) ?_
        show SS p e below m T31 101 #[iv p1, iv p2, iv p3, iv p4, iv p5, .val (.long q6), .second, iv (p1 &&& (16383 : Int32)), iv (1 : Int32), iv (1 : Int32), iv (((p1 &&& (16383 : Int32)) ||| (32768 : Int32)) ||| (16384 : Int32)), rv b29, .unset] [(.int (0 : Int32))] _
        refine XS.istore X31.here hx rfl (hb hby at_101) rfl (l' := #[iv p1, iv p2, iv p3, iv p4, iv p5, .val (.long q6), .second, iv (p1 &&& (16383 : Int32)), iv (1 : Int32), iv (1 : Int32), iv (((p1 &&& (16383 : Int32)) ||| (32768 : Int32)) ||| (16384 : Int32)), rv b29, iv (0 : Int32)]) rfl ?_
        show SS p e below m T31 103 #[iv p1, iv p2, iv p3, iv p4, iv p5, .val (.long q6), .second, iv (p1 &&& (16383 : Int32)), iv (1 : Int32), iv (1 : Int32), iv (((p1 &&& (16383 : Int32)) ||| (32768 : Int32)) ||| (16384 : Int32)), rv b29, iv (0 : Int32)] [] _
        refine XS.aload X31.here hx rfl (hb hby at_103) rfl rfl ?_
        show SS p e below m T31 105 #[iv p1, iv p2, iv p3, iv p4, iv p5, .val (.long q6), .second, iv (p1 &&& (16383 : Int32)), iv (1 : Int32), iv (1 : Int32), iv (((p1 &&& (16383 : Int32)) ||| (32768 : Int32)) ||| (16384 : Int32)), rv b29, iv (0 : Int32)] [(.ref b29)] _
        exact kk)
      obtain ⟨cq33, kq33, q33a, q33b, q33c⟩ := isOf hZ rfl E31
      obtain ⟨_, _, ⟨T33, L33, k33, n33⟩, -, X33, ⟨Lc33, hQ33, l33, y33, z33⟩, st33⟩ := X31.virtualBack hx (y := (⟨"com/example/reston/reston/codec/Envelope", "isPlain", "()Z"⟩ : MethodName)) (z := (⟨"com/example/reston/reston/codec/Envelope", "isPlain", "()Z"⟩ : MethodName)) hown (mvT hZ (hw _ (List.mem_of_getElem? (i := 29) rfl))) (mvT hZ (hw _ (List.mem_of_getElem? (i := 30) rfl))) (notFace_of_selects (args := #[]) (mvT hZ (hw _ (List.mem_of_getElem? (i := 32) rfl)))) (mvT hZ (hw _ (List.mem_of_getElem? (i := 32) rfl))) (mvT hZ (hw _ (List.mem_of_getElem? (i := 31) rfl))) (by decide) (backOf (W := 0) (rm4 l Z a0 hw [] b29 (((p1 &&& (16383 : Int32)) ||| (32768 : Int32)) ||| (16384 : Int32)) T31.heap n0 Z31 F31) hZ (hw _ (List.mem_of_getElem? (i := 33) rfl)) (hw _ (List.mem_of_getElem? (i := 3) rfl)) (by decide) (by decide)) q33a q33c (g := (mkF m 105 #[iv p1, iv p2, iv p3, iv p4, iv p5, .val (.long q6), .second, iv (p1 &&& (16383 : Int32)), iv (1 : Int32), iv (1 : Int32), iv (((p1 &&& (16383 : Int32)) ||| (32768 : Int32)) ||| (16384 : Int32)), rv b29, iv (0 : Int32)] [(.ref b29)])) rfl (by rw [hml]; rfl) (Steps.refl _) (argsL := []) (rest := []) (lenOf pd_2 rfl) rfl (by show 2 * 0 + _ ≤ _; exact Nat.le_of_eq rfl) (hb hby at_105) (fun _ _ => ⟨rfl, rfl, (by decide : 1 + 0 ≤ _), (by decide : 7 + 0 ≤ _)⟩)
      dsimp only [Pt.U, Pt.locs, Pt.cells, Pt.slots] at X33 l33 y33 z33 st33 hQ33
      subst l33 y33 z33
      obtain ⟨rfl, N33q, e33⟩ := hQ33
      have N33 := Fr.app N31 N33q
      have pre34 : ∀ t, SS p e below m T33 118 #[iv p1, iv p2, iv p3, iv p4, iv p5, .val (.long q6), .second, iv (p1 &&& (16383 : Int32)), iv (1 : Int32), iv (1 : Int32), iv (((p1 &&& (16383 : Int32)) ||| (32768 : Int32)) ||| (16384 : Int32)), rv b29, iv (0 : Int32)] [(.int (1 : Int32))] t → B t := fun t kk => pre32 t (by
        refine st33.trans ?_
        show SS p e below m T33 108 #[iv p1, iv p2, iv p3, iv p4, iv p5, .val (.long q6), .second, iv (p1 &&& (16383 : Int32)), iv (1 : Int32), iv (1 : Int32), iv (((p1 &&& (16383 : Int32)) ||| (32768 : Int32)) ||| (16384 : Int32)), rv b29, iv (0 : Int32)] [(.int (f4 (((p1 &&& (16383 : Int32)) ||| (32768 : Int32)) ||| (16384 : Int32))))] _
        refine XS.iload X33.here hx rfl (hb hby at_108) rfl ?_
        show SS p e below m T33 110 #[iv p1, iv p2, iv p3, iv p4, iv p5, .val (.long q6), .second, iv (p1 &&& (16383 : Int32)), iv (1 : Int32), iv (1 : Int32), iv (((p1 &&& (16383 : Int32)) ||| (32768 : Int32)) ||| (16384 : Int32)), rv b29, iv (0 : Int32)] [(.int (0 : Int32)), (.int (f4 (((p1 &&& (16383 : Int32)) ||| (32768 : Int32)) ||| (16384 : Int32))))] _
        refine XS.icmpNo X33.here hx rfl (hb hby at_110) rfl (teq (own_l0_3 p1  )).2 ?_
        show SS p e below m T33 113 #[iv p1, iv p2, iv p3, iv p4, iv p5, .val (.long q6), .second, iv (p1 &&& (16383 : Int32)), iv (1 : Int32), iv (1 : Int32), iv (((p1 &&& (16383 : Int32)) ||| (32768 : Int32)) ||| (16384 : Int32)), rv b29, iv (0 : Int32)] [] _
        refine XS.iconst X33.here hx rfl (hb hby at_113) ?_
        show SS p e below m T33 114 #[iv p1, iv p2, iv p3, iv p4, iv p5, .val (.long q6), .second, iv (p1 &&& (16383 : Int32)), iv (1 : Int32), iv (1 : Int32), iv (((p1 &&& (16383 : Int32)) ||| (32768 : Int32)) ||| (16384 : Int32)), rv b29, iv (0 : Int32)] [(.int (1 : Int32))] _
        refine XS.goto X33.here hx rfl (pc0 := 114) (pc' := 118) rfl (hb hby at_114) (by decide) (by decide) ?_
        show SS p e below m T33 118 #[iv p1, iv p2, iv p3, iv p4, iv p5, .val (.long q6), .second, iv (p1 &&& (16383 : Int32)), iv (1 : Int32), iv (1 : Int32), iv (((p1 &&& (16383 : Int32)) ||| (32768 : Int32)) ||| (16384 : Int32)), rv b29, iv (0 : Int32)] [(.int (1 : Int32))] _
        exact kk)
      obtain ⟨fs, hr, hrun, hended, hW, hsame⟩ := X33.leave (v := some (.int (1 : Int32))) (fun h => by rw [Bd.returns] at h; cases h)
      refine ⟨_, _, hB _ (pre34 _ ?_), hrun, hended, _, _, rfl, ?_, ⟨_, rfl⟩, hW, hsame.mono (by decide) (by decide)⟩
      · exact retN X33 hx (t := .boolean) Bd.returns (by simp) (hb hby at_118) hr
      · exact ⟨rfl, N33⟩
set_option maxRecDepth 65536 in
set_option maxHeartbeats 40000000 in
theorem comes_1 {Post : Tables → Env → Array Value → State → Outcome → State → Prop} (hpost : ∀ tb e args s v u, (limb_1_1.after args s (.returned v) u = true ∧ limb_1_2.after args s (.returned v) u = true ∧ True) → FrameEnd s (.returned v) u (Jvm.fieldLocs frame_1_writes args s ++ Jvm.arrayLocs frame_1_arrays args s ++ Jvm.staticLocs frame_1_statics s) 16 128 → Post tb e args s (.returned v) u) :
    ArmFor flags0 classFile x code maxLocals ret World_1 tables_1 room_1 Calls_1 rest_1 Pre_1 Post := by
  intro l hfl _ _ p e ha hc hk s m args below hf hA hF happ hP
  obtain ⟨hcalls, hrest, hpre⟩ := hP
  obtain ⟨-, -, -, hnamed, -, -, -, hat⟩ := (Spec.applies_iff hf).mp happ
  obtain ⟨hg, hn⟩ := and_e (Cond.before_iff.mp (show (Jvm.Cond.and given_1 narrow_1).before args s = true from hpre))
  obtain ⟨gg1, gg2⟩ := and_e hg
  obtain ⟨gg3, gg4⟩ := and_e gg2
  obtain ⟨gg5, gg6⟩ := and_e gg4
  obtain ⟨gg7, gg8⟩ := and_e gg6
  obtain ⟨gg9, gg10⟩ := and_e gg8
  obtain ⟨gg11, gg12⟩ := and_e gg10
  obtain ⟨w0, w1, w2, w3, w4, w5, rfl⟩ : ∃ w0 w1 w2 w3 w4 w5 : Value, args = #[w0, w1, w2, w3, w4, w5] := by
    have hs : args.size = 6 := by simpa [Cond.value, given_1] using gg1
    obtain ⟨L⟩ := args
    match L, hs with
    | [w0, w1, w2, w3, w4, w5], _ => exact ⟨w0, w1, w2, w3, w4, w5, rfl⟩
  have hw := fun d (hd : d ∈ tables_1) => atoms_spec (ws := Jvm.Cond.code x code maxLocals ret :: tables_1) hat d (List.mem_cons_of_mem _ hd)
  obtain ⟨i0, ei0⟩ := is_v gg3
  obtain rfl : w0 = (.int i0) := Option.some.inj ei0
  obtain ⟨i1, ei1⟩ := is_v gg5
  obtain rfl : w1 = (.int i1) := Option.some.inj ei1
  obtain ⟨i2, ei2⟩ := is_v gg7
  obtain rfl : w2 = (.int i2) := Option.some.inj ei2
  obtain ⟨i3, ei3⟩ := is_v gg9
  obtain rfl : w3 = (.int i3) := Option.some.inj ei3
  obtain ⟨i4, ei4⟩ := is_v gg11
  obtain rfl : w4 = (.int i4) := Option.some.inj ei4
  obtain ⟨i5, ei5⟩ := isL_v gg12
  obtain rfl : w5 = (.long i5) := Option.some.inj ei5
  obtain ⟨n, o, h1, h2, h3, _, L, rfl, ⟨rfl, N⟩, hq⟩ := rm0 l s _ hw tables_1 i0 i1 i2 i3 i4 i5 s.heap s.heap.size (Nat.le_refl _)  p e ha hc hk s m _ below hf ((Spec.applies_iff_loose hf).mp happ).1 ⟨rfl, State.Warmed39.refl s, rfl⟩ trivial
  refine ⟨n, _, h1, h2, h3, hpost _ _ _ _ _ _ ⟨Cond.after_iff.mpr rfl, Cond.after_iff.mpr (eq_i res_at (Term.int_eval (1)) rfl), trivial⟩ ⟨hq.1, hq.2.1, (hq.2.2.sift fun y hy => Or.inr (N y hy)).mono (by decide) (by decide)⟩⟩
theorem main_1_1 : Claimed_1_1 := comes_1 fun _ _ _ _ _ _ h hF => ⟨h.1, hF⟩
theorem main_1_2 : Claimed_1_2 := comes_1 fun _ _ _ _ _ _ h hF => ⟨h.2.1, hF⟩
end Jvm.Pilot.@@N@@
namespace Jvm.Pilot.@@N@@
open Jvm Jvm.ClassFile Sem Op Lib Jvm.Free Jvm.Stand Jvm.Pilot.@@N@@.Jvm.D
/-! MADE BY PROGRAM (witnessworld.py) out of the Statement's table words and the real class files: 10 classes; the members and pool entries that the words name. The judged class is class 1, her method 1. -/
namespace start1
open Jvm.ClassFile
def u (s : String) : CpInfo := .utf8 (stringToUtf16 s)
/-- a pool by its gaps: so many unusable entries, then the entry; so many at the end -/
def gap : Nat → List CpInfo → List CpInfo
  | 0, r => r
  | n + 1, r => .unusable :: gap n r
def poolList (es : List (Nat × CpInfo)) (last : Nat) : List CpInfo := es.foldr (fun e r => gap e.1 (e.2 :: r)) (gap last [])
def pool (es : List (Nat × CpInfo)) (last : Nat) : Array CpInfo := ⟨poolList es last⟩
def fileOf (pool : Array CpInfo) (this : Nat) (attrs : Array Attribute := #[]) (ms : Array MethodInfo := #[]) (fl : Nat := 33) (sup : Nat := 0) (ifs : Array Nat := #[]) (fds : Array FieldInfo := #[]) : ClassFile where
  minorVersion := 0
  majorVersion := 65
  constantPool := pool
  accessFlags := fl
  thisClass := this
  superClass := sup
  interfaces := ifs
  fields := fds
  methods := ms
  attributes := attrs
def plain (name : String) (sup : Option ClassId) : Class where
  name := name
  kind := .ordinary
  loader := none
  accessFlags := 33
  super := sup
  interfaces := #[]
  cf := none
  fields := #[]
  methods := #[]
  instanceTypes := #[]
  staticTypes := #[]
  resolved := #[]
  callSites := []
  init := .initialized
  statics := none
  mirror := none

def pool0 : Array CpInfo := pool [(5, u "<init>"), (0, u "()V"), (1, .class_ 10), (1, u "java/lang/Object")] 113

def k0c0 : Code := { maxStack := 0, maxLocals := 1, code := object_method_1_code, exceptionTable := #[], attributes := #[] }
def k0m0 : Method := { name := "<init>", desc := "()V", sig := { parameters := [], returnType := none }, accessFlags := 1, code := some k0c0 }
/-- java/lang/Object -/
def k0 : Class := { plain "java/lang/Object" none with
  accessFlags := 33
  interfaces := #[]
  cf := some (fileOf pool0 8 #[] #[{ accessFlags := 1, nameIndex := 5, descriptorIndex := 6, attributes := #[] }] 33 0 #[] #[])
  fields := #[]
  methods := #[k0m0]
  instanceTypes := #[]
  staticTypes := #[]
  resolved := Array.replicate 124 none
  statics := none }

def pool1 : Array CpInfo := pool [(2, .class_ 4), (1, u "java/lang/Object"), (0, u "<init>"), (0, u "()V"), (0, .integer 32768), (0, .class_ 9), (0, u "com/example/reston/reston/codec/Envelope"), (0, .methodref 8 11), (0, .nameAndType 5 12), (0, u "(IIIIIIJ)V"), (0, .methodref 8 14), (0, .nameAndType 15 16), (0, u "isPlain"), (0, u "()Z"), (0, .class_ 18), (0, u "com/example/reston/reston/codec/EnvelopeIsPlainPinLaw"), (2, u "law"), (0, u "(IIIIIJ)Z")] 3

def k1m0 : Method := { name := "<init>", desc := "()V", sig := { parameters := [], returnType := none }, accessFlags := 1, code := none }
def k1c1 : Code := { maxStack := 10, maxLocals := 13, code := code, exceptionTable := #[], attributes := #[] }
def k1m1 : Method := { name := "law", desc := "(IIIIIJ)Z", sig := { parameters := [.int, .int, .int, .int, .int, .long], returnType := some .boolean }, accessFlags := 9, code := some k1c1 }
/-- com/example/reston/reston/codec/EnvelopeIsPlainPinLaw -/
def k1 : Class := { plain "com/example/reston/reston/codec/EnvelopeIsPlainPinLaw" (some 0) with
  accessFlags := 49
  interfaces := #[]
  cf := some (fileOf pool1 17 #[] #[{ accessFlags := 1, nameIndex := 5, descriptorIndex := 6, attributes := #[] }, { accessFlags := 9, nameIndex := 21, descriptorIndex := 22, attributes := #[] }] 49 2 #[] #[])
  fields := #[]
  methods := #[k1m0, k1m1]
  instanceTypes := #[]
  staticTypes := #[]
  resolved := Array.replicate 26 none
  statics := none }

def pool2 : Array CpInfo := pool [(1, .methodref 2 3), (0, .class_ 4), (0, .nameAndType 5 6), (0, u "java/lang/Object"), (0, u "<init>"), (0, u "()V"), (0, .class_ 8), (0, u "java/lang/Record")] 13

def k2c0 : Code := { maxStack := 1, maxLocals := 1, code := jdk_30_method_1_code, exceptionTable := #[], attributes := #[] }
def k2m0 : Method := { name := "<init>", desc := "()V", sig := { parameters := [], returnType := none }, accessFlags := 4, code := some k2c0 }
/-- java/lang/Record -/
def k2 : Class := { plain "java/lang/Record" (some 0) with
  accessFlags := 1057
  interfaces := #[]
  cf := some (fileOf pool2 7 #[] #[{ accessFlags := 4, nameIndex := 5, descriptorIndex := 6, attributes := #[] }] 1057 2 #[] #[])
  fields := #[]
  methods := #[k2m0]
  instanceTypes := #[]
  staticTypes := #[]
  resolved := Array.replicate 22 none
  statics := none }

def pool3 : Array CpInfo := pool [(1, .methodref 2 3), (0, .class_ 4), (0, .nameAndType 5 6), (0, u "java/lang/Record"), (0, u "<init>"), (0, u "()V"), (0, .fieldref 8 9), (0, .class_ 10), (0, .nameAndType 11 12), (0, u "com/example/reston/reston/codec/Envelope"), (0, u "majorVersion"), (0, u "I"), (0, .fieldref 8 14), (0, .nameAndType 15 12), (0, u "minorVersion"), (0, .fieldref 8 17), (0, .nameAndType 18 12), (0, u "flags"), (0, .fieldref 8 20), (0, .nameAndType 21 12), (0, u "sessionId"), (0, .fieldref 8 23), (0, .nameAndType 24 12), (0, u "requestId"), (0, .fieldref 8 26), (0, .nameAndType 27 12), (0, u "sequenceNumber"), (0, .fieldref 8 29), (0, .nameAndType 30 31), (0, u "messageLength"), (0, u "J"), (31, u "(IIIIIIJ)V"), (79, .integer 49152), (22, u "LENGTH"), (2, u "COMPRESSED"), (1, u "ENCRYPTED"), (1, u "TRUNCATED"), (10, u "isPlain"), (0, u "()Z")] 41

def k3c0 : Code := { maxStack := 3, maxLocals := 9, code := prog_8_method_1_code, exceptionTable := #[], attributes := #[] }
def k3m0 : Method := { name := "<init>", desc := "(IIIIIIJ)V", sig := { parameters := [.int, .int, .int, .int, .int, .int, .long], returnType := none }, accessFlags := 1, code := some k3c0 }
def k3c1 : Code := { maxStack := 2, maxLocals := 1, code := prog_8_method_5_code, exceptionTable := #[], attributes := #[] }
def k3m1 : Method := { name := "isPlain", desc := "()Z", sig := { parameters := [], returnType := some .boolean }, accessFlags := 1, code := some k3c1 }
/-- com/example/reston/reston/codec/Envelope -/
def k3 : Class := { plain "com/example/reston/reston/codec/Envelope" (some 2) with
  accessFlags := 49
  interfaces := #[]
  cf := some (fileOf pool3 8 #[] #[{ accessFlags := 1, nameIndex := 5, descriptorIndex := 63, attributes := #[] }, { accessFlags := 1, nameIndex := 184, descriptorIndex := 185, attributes := #[] }] 49 2 #[] #[{ accessFlags := 18, nameIndex := 11, descriptorIndex := 12, attributes := #[] }, { accessFlags := 18, nameIndex := 15, descriptorIndex := 12, attributes := #[] }, { accessFlags := 18, nameIndex := 18, descriptorIndex := 12, attributes := #[] }, { accessFlags := 18, nameIndex := 21, descriptorIndex := 12, attributes := #[] }, { accessFlags := 18, nameIndex := 24, descriptorIndex := 12, attributes := #[] }, { accessFlags := 18, nameIndex := 27, descriptorIndex := 12, attributes := #[] }, { accessFlags := 18, nameIndex := 30, descriptorIndex := 31, attributes := #[] }, { accessFlags := 25, nameIndex := 166, descriptorIndex := 12, attributes := #[] }, { accessFlags := 25, nameIndex := 169, descriptorIndex := 12, attributes := #[] }, { accessFlags := 25, nameIndex := 171, descriptorIndex := 12, attributes := #[] }, { accessFlags := 25, nameIndex := 173, descriptorIndex := 12, attributes := #[] }])
  fields := #[{ name := "majorVersion", type := .int, accessFlags := 18, slot := 0, constantValue := 0 }, { name := "minorVersion", type := .int, accessFlags := 18, slot := 1, constantValue := 0 }, { name := "flags", type := .int, accessFlags := 18, slot := 2, constantValue := 0 }, { name := "sessionId", type := .int, accessFlags := 18, slot := 3, constantValue := 0 }, { name := "requestId", type := .int, accessFlags := 18, slot := 4, constantValue := 0 }, { name := "sequenceNumber", type := .int, accessFlags := 18, slot := 5, constantValue := 0 }, { name := "messageLength", type := .long, accessFlags := 18, slot := 6, constantValue := 0 }, { name := "LENGTH", type := .int, accessFlags := 25, slot := 0, constantValue := 0 }, { name := "COMPRESSED", type := .int, accessFlags := 25, slot := 1, constantValue := 0 }, { name := "ENCRYPTED", type := .int, accessFlags := 25, slot := 2, constantValue := 0 }, { name := "TRUNCATED", type := .int, accessFlags := 25, slot := 3, constantValue := 0 }]
  methods := #[k3m0, k3m1]
  instanceTypes := #[.int, .int, .int, .int, .int, .int, .long]
  staticTypes := #[.int, .int, .int, .int]
  resolved := Array.replicate 227 none
  statics := none }

def pool4 : Array CpInfo := pool [(1, u "java/lang/Cloneable"), (0, .class_ 1), (0, u "java/lang/Object"), (0, .class_ 3)] 3

/-- java/lang/Cloneable -/
def k4 : Class := { plain "java/lang/Cloneable" (some 0) with
  accessFlags := 1537
  interfaces := #[]
  cf := some (fileOf pool4 2 #[] #[] 1537 4 #[] #[])
  fields := #[]
  methods := #[]
  instanceTypes := #[]
  staticTypes := #[]
  resolved := Array.replicate 8 none
  statics := none }

def pool5 : Array CpInfo := pool [(1, u "java/io/Serializable"), (0, .class_ 1), (0, u "java/lang/Object"), (0, .class_ 3)] 3

/-- java/io/Serializable -/
def k5 : Class := { plain "java/io/Serializable" (some 0) with
  accessFlags := 1537
  interfaces := #[]
  cf := some (fileOf pool5 2 #[] #[] 1537 4 #[] #[])
  fields := #[]
  methods := #[]
  instanceTypes := #[]
  staticTypes := #[]
  resolved := Array.replicate 8 none
  statics := none }

/-- the primitive byte -/
def k6 : Class := { plain "byte" none with kind := .primitive 'B', accessFlags := 0x411 }
/-- [B -/
def k7 : Class := { plain "[B" (some 0) with kind := .array 6 .byte, interfaces := #[4, 5], accessFlags := 1041 }

/-- the primitive int -/
def k8 : Class := { plain "int" none with kind := .primitive 'I', accessFlags := 0x411 }
/-- [I -/
def k9 : Class := { plain "[I" (some 0) with kind := .array 8 .int, interfaces := #[4, 5], accessFlags := 1041 }

def heap : Heap := #[]
def classes : Array Class := #[k0, k1, k2, k3, k4, k5, k6, k7, k8, k9]
def interned : List (Array UInt16 × Addr) := []
def slotsUsed : Nat := 0
def theMethod : MethodId := ⟨1, 1⟩
def args0 : Array Value := #[.int 5, .int 5, .int 5, .int 5, .int 5, .long 5]
def aboutOver (below : List Frame) : State where
  vm := { classes := classes, interned := interned.toArray }
  heap := heap
  slotsUsed := slotsUsed
  threads := #[{ frames := .invoking theMethod args0 :: below }]
def below0 : List Frame := [.native { method := ⟨0, 0⟩, args := #[] }]
def about1 : State := aboutOver below0
def p0 : Program := .bare "" "" ""
def e0 : Env := launch0.env 0 0 0
theorem w_frames : about1.frames = Frame.invoking theMethod args0 :: below0 := rfl
set_option maxRecDepth 65536 in
theorem w_args : argsFit about1.vm theMethod args0 = true := by decide +kernel
set_option maxRecDepth 65536 in
theorem w_heap : heapFits about1 = true := by decide +kernel
set_option maxRecDepth 65536 in
theorem w_runnable : about1.curStatus? = some .runnable := by decide +kernel
set_option maxRecDepth 65536 in
theorem w_alone : about1.alone = true := by decide +kernel
set_option maxRecDepth 65536 in
theorem w_named : about1.methodNamed? x = some theMethod := by decide +kernel
set_option maxRecDepth 65536 in
theorem w_hears : about1.hears theMethod below0 = true := by decide +kernel
set_option maxRecDepth 65536 in
theorem w_ripe : about1.ripe theMethod args0 below0 = true := by decide +kernel
theorem w_running : about1.status = .running := rfl
set_option maxRecDepth 65536 in
theorem w_room : about1.hasRoom e0.platform room_1 = true :=
  launch0.hasRoom_least _ room_1 (by decide +kernel) (by decide +kernel) (by decide +kernel) (by decide +kernel) (by decide +kernel) (by decide +kernel)
theorem allAtoms_all (ts : List Jvm.Cond) (a : Array Jvm.Value) (st : Jvm.State) : (allAtoms ts).before a st = ts.all (fun c => c.before a st) := by
  induction ts with
  | nil => rfl
  | cons c t ih =>
    show (Jvm.Cond.and c (allAtoms t)).before a st = _
    rw [Jvm.Cond.before_and, ih, List.all_cons]
def words1 : List Jvm.Cond := Jvm.Cond.code x code maxLocals ret :: tables_1
/-- a 'code' word, met by the world's own term for the bytes: nothing is compared byte by byte -/
theorem code_word {y : MethodName} {bytes : ByteArray} {mx : Nat} {rt : Option FieldType} {a : Array Value} {s : State} {m : MethodId} {meth : Method} {c : Code} (h1 : s.methodNamed? y = some m) (h2 : s.vm.method? m = some meth) (h3 : meth.code = some c) (h4 : c.code = bytes)
    (h5 : (c.maxLocals == mx && c.exceptionTable.isEmpty && decide (c.maxStack ≤ mostOperands) && decide (meth.sig.returnType = rt) && !meth.locks && decide (parseMethodDescriptor y.desc = some meth.sig)) = true) : (Jvm.Cond.code y bytes mx rt).before a s = true := by
  simp only [Bool.and_eq_true, beq_iff_eq, Bool.not_eq_true', decide_eq_true_eq] at h5
  obtain ⟨⟨⟨⟨⟨g1, g2⟩, g3⟩, g4⟩, g5⟩, g6⟩ := h5
  simp [Cond.before, Cond.holds, Cond.value, h1, h2, h3, h4, g1, g2, g3, g4, g5, g6]
def isCode : Jvm.Cond → Bool
  | .code _ _ _ _ => true
  | _ => false
theorem all_split {L : List Jvm.Cond} {P : Jvm.Cond → Bool} (h1 : L.all (fun c => isCode c || P c) = true) (h2 : ∀ c ∈ L.filter isCode, P c = true) : L.all P = true := by
  refine List.all_eq_true.mpr fun c hc => ?_
  have h := List.all_eq_true.mp h1 c hc
  rcases Bool.eq_false_or_eq_true (isCode c) with hi | hi
  · exact h2 c (List.mem_filter.mpr ⟨hc, hi⟩)
  · simpa [hi] using h
set_option maxRecDepth 65536 in
theorem w_c0 : (Jvm.Cond.code x code maxLocals ret).before args0 about1 = true := code_word (m := ⟨1, 1⟩) (meth := k1m1) (c := k1c1) (by decide +kernel) rfl rfl rfl (by decide +kernel)
set_option maxRecDepth 65536 in
theorem w_c1 : (Jvm.Cond.code ({ cls := "com/example/reston/reston/codec/Envelope", name := "<init>", desc := "(IIIIIIJ)V" } : Jvm.MethodName) prog_8_method_1_code (9 : Nat) (Option.none : Option Jvm.ClassFile.FieldType)).before args0 about1 = true := code_word (m := ⟨3, 0⟩) (meth := k3m0) (c := k3c0) (by decide +kernel) rfl rfl rfl (by decide +kernel)
set_option maxRecDepth 65536 in
theorem w_c2 : (Jvm.Cond.code ({ cls := "java/lang/Record", name := "<init>", desc := "()V" } : Jvm.MethodName) jdk_30_method_1_code (1 : Nat) (Option.none : Option Jvm.ClassFile.FieldType)).before args0 about1 = true := code_word (m := ⟨2, 0⟩) (meth := k2m0) (c := k2c0) (by decide +kernel) rfl rfl rfl (by decide +kernel)
set_option maxRecDepth 65536 in
theorem w_c3 : (Jvm.Cond.code ({ cls := "java/lang/Object", name := "<init>", desc := "()V" } : Jvm.MethodName) object_method_1_code (1 : Nat) (Option.none : Option Jvm.ClassFile.FieldType)).before args0 about1 = true := code_word (m := ⟨0, 0⟩) (meth := k0m0) (c := k0c0) (by decide +kernel) rfl rfl rfl (by decide +kernel)
set_option maxRecDepth 65536 in
theorem w_c4 : (Jvm.Cond.code ({ cls := "com/example/reston/reston/codec/Envelope", name := "isPlain", desc := "()Z" } : Jvm.MethodName) prog_8_method_5_code (1 : Nat) (Option.some Jvm.ClassFile.FieldType.boolean)).before args0 about1 = true := code_word (m := ⟨3, 1⟩) (meth := k3m1) (c := k3c1) (by decide +kernel) rfl rfl rfl (by decide +kernel)
def codes1 : List Jvm.Cond := [Jvm.Cond.code x code maxLocals ret, Jvm.Cond.code ({ cls := "com/example/reston/reston/codec/Envelope", name := "<init>", desc := "(IIIIIIJ)V" } : Jvm.MethodName) prog_8_method_1_code (9 : Nat) (Option.none : Option Jvm.ClassFile.FieldType), Jvm.Cond.code ({ cls := "java/lang/Record", name := "<init>", desc := "()V" } : Jvm.MethodName) jdk_30_method_1_code (1 : Nat) (Option.none : Option Jvm.ClassFile.FieldType), Jvm.Cond.code ({ cls := "java/lang/Object", name := "<init>", desc := "()V" } : Jvm.MethodName) object_method_1_code (1 : Nat) (Option.none : Option Jvm.ClassFile.FieldType), Jvm.Cond.code ({ cls := "com/example/reston/reston/codec/Envelope", name := "isPlain", desc := "()Z" } : Jvm.MethodName) prog_8_method_5_code (1 : Nat) (Option.some Jvm.ClassFile.FieldType.boolean)]
set_option maxRecDepth 65536 in
theorem codes_eq : words1.filter isCode = codes1 := rfl
theorem w_codes : ∀ c ∈ words1.filter isCode, c.before args0 about1 = true := by
  rw [codes_eq]
  intro c hc
  simp only [codes1, List.mem_cons, List.not_mem_nil, or_false] at hc
  rcases hc with rfl | rfl | rfl | rfl | rfl
  · exact w_c0
  · exact w_c1
  · exact w_c2
  · exact w_c3
  · exact w_c4
set_option maxRecDepth 65536 in
theorem w_t1 : (words1.take 24).all (fun c => isCode c || c.before args0 about1) = true := by decide +kernel
set_option maxRecDepth 65536 in
theorem w_t2 : (words1.drop 24).all (fun c => isCode c || c.before args0 about1) = true := by decide +kernel
theorem w_tables : (allAtoms (Jvm.Cond.code x code maxLocals ret :: tables_1)).before args0 about1 = true := by
  rw [allAtoms_all]
  show words1.all (fun c => c.before args0 about1) = true
  refine all_split ?_ w_codes
  rw [← List.take_append_drop 24 words1, List.all_append, w_t1, w_t2]
  rfl
set_option maxRecDepth 65536 in
theorem w_case : (Jvm.Cond.and given_1 narrow_1).before args0 about1 = true := by decide +kernel
theorem w_applies : (headSpec (Jvm.Cond.code x code maxLocals ret :: tables_1) room_1).applies x e0.platform about1 = true :=
  (Spec.applies_iff w_frames).mpr ⟨w_running, w_runnable, w_alone, w_named, w_hears, w_ripe, w_room, w_tables⟩
theorem atStart : AtStart classFile x code maxLocals ret World_1 tables_1 room_1 Calls_1 rest_1 Pre_1 launch0 p0 e0 about1 theMethod args0 below0 :=
  ⟨lists_1, trivial, launch0.admits_env _ _ _, launch0.least_env, fairChoices_fair.cas, fairChoices_fair.clock, w_frames, w_args, w_heap, w_applies, trivial, trivial, w_case⟩
end start1
theorem witness_1 : WitnessClaimed_1 := ⟨start1.p0, start1.e0, start1.about1, start1.theMethod, start1.args0, start1.below0, start1.atStart⟩
end Jvm.Pilot.@@N@@
