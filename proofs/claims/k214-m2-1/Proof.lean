import JvmDerived
import JvmDerived.Pilot.@@N@@Statement
import JvmDerived.Pilot.@@N@@Code
set_option linter.unusedVariables false
set_option linter.unusedSimpArgs false
namespace Jvm.RoadKit
open Sem ClassFile Op Lib Jvm.Stand Jvm.Free Jvm.LawKit
section New
variable {p : Program} {l : Launch} {e : Env} {R : Room} {s : State} {m : MethodId} {args : Array Value} {below : List Frame} {meth : Method} {c : Code} {T : State} {locs : List Loc} {cells slots : Nat}
theorem retI (X : Stand p l e R s m args below meth c T locs cells slots) (hx : p.tables.exec = Jvm.exec) {pc : Nat} {Ls : Array Slot} {z : Int32} {rest : List Value} (hret : meth.sig.returnType = some .int) (hd : decode c.code pc = .ok (.ireturn, 1)) {fs : List Frame}
    (hl : ∀ (f : JFrame) (acts : List Action), f.method = m → f.locked = none → f.entered = [] → (doReturn e (T.setTop f) acts (some (.int z))).1 = T.setFrames fs) : Steps p.tables e below (T.setTop (mkF m pc Ls (.int z :: rest))) (T.setFrames fs) := by
  have hm' : T.vm.method? m = some meth := X.method'
  have hn : narrow .int (.int z) = .int z := rfl
  show Steps p.tables e below (T.setTop { method := m, pc := pc, locals := Ls, stack := _ :: rest, locked := none }) _
  jvm_step X.here [X.here.top, hx, hd, hm', hret, hn]
  first | (intro acts; rw [hl _ acts rfl rfl rfl]) | rw [hl _ _ rfl rfl rfl]
  exact Steps.refl _
theorem retL (X : Stand p l e R s m args below meth c T locs cells slots) (hx : p.tables.exec = Jvm.exec) {pc : Nat} {Ls : Array Slot} {z : Int64} {rest : List Value} (hret : meth.sig.returnType = some .long) (hd : decode c.code pc = .ok (.lreturn, 1)) {fs : List Frame}
    (hl : ∀ (f : JFrame) (acts : List Action), f.method = m → f.locked = none → f.entered = [] → (doReturn e (T.setTop f) acts (some (.long z))).1 = T.setFrames fs) : Steps p.tables e below (T.setTop (mkF m pc Ls (.long z :: rest))) (T.setFrames fs) := by
  have hm' : T.vm.method? m = some meth := X.method'
  have hn : narrow .long (.long z) = .long z := rfl
  show Steps p.tables e below (T.setTop { method := m, pc := pc, locals := Ls, stack := _ :: rest, locked := none }) _
  jvm_step X.here [X.here.top, hx, hd, hm', hret, hn]
  first | (intro acts; rw [hl _ acts rfl rfl rfl]) | rw [hl _ _ rfl rfl rfl]
  exact Steps.refl _
end New
end Jvm.RoadKit
namespace Jvm.Pilot.@@N@@
open Jvm Jvm.ClassFile Sem Op Lib Jvm.Free Jvm.Stand Jvm.LawKit Jvm.RoadKit Bundle Jvm.Pilot.@@N@@.Jvm.D
/-- the run comes from pc, with these locals and this stack, to t -/
abbrev SS (p : Program) (e : Env) (below : List Frame) (m : MethodId) (T : State) (pc : Nat) (ls : Array Slot) (st : List Value) (t : State) : Prop := Steps p.tables e below (T.setTop (mkF m pc ls st)) t
/-- a method that writes nothing and returns an int -/
def QI (r : Int32) (h0 : Heap) (n0 : Nat) (v : Option Value) (h : Heap) (L : List Loc) : Prop := v = some (.int r) ∧ Fr n0 L ∧ h = h0
def QL (r : Int64) (h0 : Heap) (n0 : Nat) (v : Option Value) (h : Heap) (L : List Loc) : Prop := v = some (.long r) ∧ Fr n0 L ∧ h = h0
def QV (h0 : Heap) (n0 : Nat) (v : Option Value) (h : Heap) (L : List Loc) : Prop := v = none ∧ Fr n0 L ∧ h = h0
/-- .. that may load String constants -/
def QC (r : Int32) (W0 : Vm → Heap → Prop) (h0 : Heap) (n0 : Nat) (v : Option Value) (h : Heap) (vm : Vm) (L : List Loc) : Prop := v = some (.int r) ∧ Fr n0 L ∧ Ext h0 h ∧ W0 vm h
def QIS (r : Int32) (h0 : Heap) (n0 : Nat) (v : Option Value) (h : Heap) (L : List Loc) : Prop := v = some (.int r) ∧ Fr n0 L ∧ Ext h0 h
theorem own_ext {a b c : Heap} (h : Ext a b) (k : Ext b c) : Ext a c := ⟨Nat.le_trans h.1 k.1, fun x y q => k.2 _ _ (h.2 _ _ q)⟩
theorem own_extw {a h h' : Heap} {x : Addr} {sl : Nat} {v : Value} (E : Ext a h) (W : Wr h h' x sl v) (q : a.size ≤ x) : Ext a h' := by
  have K := Keep.of_wr W
  refine ⟨Nat.le_trans E.1 K.1, fun y c hc => K.2.1 _ _ (E.2 _ _ hc) fun hm => ?_⟩
  have hl := (Array.getElem?_eq_some_iff.mp hc).1
  rw [List.mem_singleton] at hm
  rw [hm] at hl
  exact absurd hl (Nat.not_lt.mpr q)
def QE (n0 : Nat) (v : Option Value) (h : Heap) (L : List Loc) : Prop := v = some (.int 1) ∧ Fr n0 L
theorem own_getD (l : List Int32) (k : Nat) (d : Int32) : (l.map Value.int).getD k (.int d) = .int (l.getD k d) := by
  rw [List.getD_eq_getElem?_getD, List.getD_eq_getElem?_getD, List.getElem?_map]
  cases l[k]? <;> rfl
theorem d1_0 : decode method_3_code 0 = .ok (.iload_n 0, 1) := by decide +kernel
theorem d1_1 : decode method_3_code 1 = .ok (.iconst 2, 1) := by decide +kernel
theorem d1_2 : decode method_3_code 2 = .ok (.iload_n 1, 1) := by decide +kernel
theorem d1_3 : decode method_3_code 3 = .ok (.imul, 1) := by decide +kernel
theorem d1_4 : decode method_3_code 4 = .ok (.iushr, 1) := by decide +kernel
theorem d1_5 : decode method_3_code 5 = .ok (.iconst 3, 1) := by decide +kernel
theorem d1_6 : decode method_3_code 6 = .ok (.iand, 1) := by decide +kernel
theorem d1_7 : decode method_3_code 7 = .ok (.istore_n 2, 1) := by decide +kernel
theorem d1_8 : decode method_3_code 8 = .ok (.iload_n 2, 1) := by decide +kernel
theorem d1_9 : decode method_3_code 9 = .ok (.ifCond .ne 6, 3) := by decide +kernel
theorem d1_12 : decode method_3_code 12 = .ok (.bipush 63, 2) := by decide +kernel
theorem d1_14 : decode method_3_code 14 = .ok (.ireturn, 1) := by decide +kernel
theorem d1_15 : decode method_3_code 15 = .ok (.iload_n 2, 1) := by decide +kernel
theorem d1_16 : decode method_3_code 16 = .ok (.iconst 1, 1) := by decide +kernel
theorem d1_17 : decode method_3_code 17 = .ok (.if_icmp .ne 6, 3) := by decide +kernel
theorem d1_20 : decode method_3_code 20 = .ok (.bipush 62, 2) := by decide +kernel
theorem d1_22 : decode method_3_code 22 = .ok (.ireturn, 1) := by decide +kernel
theorem d1_23 : decode method_3_code 23 = .ok (.iload_n 2, 1) := by decide +kernel
theorem d1_24 : decode method_3_code 24 = .ok (.iconst 2, 1) := by decide +kernel
theorem d1_25 : decode method_3_code 25 = .ok (.if_icmp .ne 6, 3) := by decide +kernel
theorem d1_28 : decode method_3_code 28 = .ok (.bipush 60, 2) := by decide +kernel
theorem d1_30 : decode method_3_code 30 = .ok (.ireturn, 1) := by decide +kernel
theorem d1_31 : decode method_3_code 31 = .ok (.bipush 97, 2) := by decide +kernel
theorem d1_33 : decode method_3_code 33 = .ok (.ireturn, 1) := by decide +kernel
theorem pn_1 : plainName "com/example/mendmark/mendmark/core/ScannerDeclarationEndPinLaw" = true := by first | (simp [plainName, overriddenIn]; done) | decide +kernel
theorem ef_1 (m : MethodId) (p1 : Int32) (p2 : Int32) : entryFrame m #[(.int p1), (.int p2)] 3 = mkF m 0 #[iv p1, iv p2, .unset] [] := by first | (simp [entryFrame, mkF, argsToLocals, Value.category]; done) | rfl
def f1 (p1 : Int32) (p2 : Int32)  : Int32 := (if (((p1.toUInt32 >>> (((2 : Int32) * p2) &&& 31).toUInt32).toInt32) &&& (3 : Int32)) = (0 : Int32) then (63 : Int32) else (if (((p1.toUInt32 >>> (((2 : Int32) * p2) &&& 31).toUInt32).toInt32) &&& (3 : Int32)) = (1 : Int32) then (62 : Int32) else (if (((p1.toUInt32 >>> (((2 : Int32) * p2) &&& 31).toUInt32).toInt32) &&& (3 : Int32)) = (2 : Int32) then (60 : Int32) else (97 : Int32))))
set_option maxRecDepth 65536 in
set_option maxHeartbeats 40000000 in
theorem rm1 (l : Launch) (Z : State) (a0 : Array Value) (hw : ∀ d ∈ tables_1, d.before a0 Z = true) (ws : List Jvm.Cond) (p1 : Int32) (p2 : Int32)  (h0 : Heap) (n0 : Nat) (Z0 : n0 ≤ h0.size)  :
    MetFree l (⟨"com/example/mendmark/mendmark/core/ScannerDeclarationEndPinLaw", "pick", "(II)C"⟩ : MethodName) (head1 (Jvm.Cond.code (⟨"com/example/mendmark/mendmark/core/ScannerDeclarationEndPinLaw", "pick", "(II)C"⟩ : MethodName) method_3_code 3 (some .char) :: ws) ({ frames := 0, cells := 0, slots := 0, locals := 0 } : Room)) (fun a U => a = #[(.int p1), (.int p2)] ∧ Z.Warmed39 U.vm ∧ U.heap = h0) (fun _ _ _ _ _ => True) (fun _ U o U' => ∃ v L, o = .returned v ∧ QI (f1 p1 p2) h0 n0 v U'.heap L ∧ FrameEnd U o U' L ({ frames := 0, cells := 0, slots := 0, locals := 0 } : Room).cells ({ frames := 0, cells := 0, slots := 0, locals := 0 } : Room).slots) := by
  refine MetFree.of_bodySF (plainFor_of_name pn_1) hisR ?_
  intro p e s m args below meth c s₁ Bd hml0 hP hK
  obtain ⟨rfl, hZ, hh⟩ := hP
  have hx := Bd.exec
  have hby := Bd.bytes
  have hml : c.maxLocals = 3 := hml0
  have hown : s.vm.findClass "com/example/mendmark/mendmark/core/ScannerDeclarationEndPinLaw" = some m.cls := findClass_of_methodNamed Bd.named
  have hnm := (name_of_methodNamed Bd.named Bd.method).1
  have X0 : Stand p l e ({ frames := 0, cells := 0, slots := 0, locals := 0 } : Room) s m #[(.int p1), (.int p2)] below meth c s₁ [] 0 0 := Stand.of_body Bd
  have e0 : s₁.heap = h0 := by rw [← hh, Bd.state]; rfl
  have N0 := Fr.nil n0
  obtain ⟨B, hB, pre0⟩ : ∃ B : State → Prop, (∀ t, B t → Steps p.tables e below (s₁.setTop (entryFrame m #[(.int p1), (.int p2)] 3)) t) ∧ ∀ t, SS p e below m s₁ 0 #[iv p1, iv p2, .unset] [] t → B t := ⟨_, fun _ q => q, fun t kk => castTop (ef_1 m p1 p2) kk⟩
  have pre1 : ∀ t, SS p e below m s₁ 9 #[iv p1, iv p2, iv (((p1.toUInt32 >>> (((2 : Int32) * p2) &&& 31).toUInt32).toInt32) &&& (3 : Int32))] [(.int (((p1.toUInt32 >>> (((2 : Int32) * p2) &&& 31).toUInt32).toInt32) &&& (3 : Int32)))] t → B t := fun t kk => pre0 t (by
    show SS p e below m s₁ 0 #[iv p1, iv p2, .unset] [] _
    refine XS.iloadN X0.here hx rfl (hb hby d1_0) rfl ?_
    show SS p e below m s₁ 1 #[iv p1, iv p2, .unset] [(.int p1)] _
    refine XS.iconst X0.here hx rfl (hb hby d1_1) ?_
    show SS p e below m s₁ 2 #[iv p1, iv p2, .unset] [(.int (2 : Int32)), (.int p1)] _
    refine XS.iloadN X0.here hx rfl (hb hby d1_2) rfl ?_
    show SS p e below m s₁ 3 #[iv p1, iv p2, .unset] [(.int p2), (.int (2 : Int32)), (.int p1)] _
    refine XS.imul X0.here hx rfl (hb hby d1_3) rfl ?_
    show SS p e below m s₁ 4 #[iv p1, iv p2, .unset] [(.int ((2 : Int32) * p2)), (.int p1)] _
    refine XS.iushr X0.here hx rfl (hb hby d1_4) rfl ?_
    show SS p e below m s₁ 5 #[iv p1, iv p2, .unset] [(.int ((p1.toUInt32 >>> (((2 : Int32) * p2) &&& 31).toUInt32).toInt32))] _
    refine XS.iconst X0.here hx rfl (hb hby d1_5) ?_
    show SS p e below m s₁ 6 #[iv p1, iv p2, .unset] [(.int (3 : Int32)), (.int ((p1.toUInt32 >>> (((2 : Int32) * p2) &&& 31).toUInt32).toInt32))] _
    refine XS.iand X0.here hx rfl (hb hby d1_6) rfl ?_
    show SS p e below m s₁ 7 #[iv p1, iv p2, .unset] [(.int (((p1.toUInt32 >>> (((2 : Int32) * p2) &&& 31).toUInt32).toInt32) &&& (3 : Int32)))] _
    refine XS.istoreN X0.here hx rfl (hb hby d1_7) rfl (l' := #[iv p1, iv p2, iv (((p1.toUInt32 >>> (((2 : Int32) * p2) &&& 31).toUInt32).toInt32) &&& (3 : Int32))]) rfl ?_
    show SS p e below m s₁ 8 #[iv p1, iv p2, iv (((p1.toUInt32 >>> (((2 : Int32) * p2) &&& 31).toUInt32).toInt32) &&& (3 : Int32))] [] _
    refine XS.iloadN X0.here hx rfl (hb hby d1_8) rfl ?_
    show SS p e below m s₁ 9 #[iv p1, iv p2, iv (((p1.toUInt32 >>> (((2 : Int32) * p2) &&& 31).toUInt32).toInt32) &&& (3 : Int32))] [(.int (((p1.toUInt32 >>> (((2 : Int32) * p2) &&& 31).toUInt32).toInt32) &&& (3 : Int32)))] _
    exact kk)
  by_cases hc2 : (((p1.toUInt32 >>> (((2 : Int32) * p2) &&& 31).toUInt32).toInt32) &&& (3 : Int32)) = (0 : Int32)
  · have pre3 : ∀ t, SS p e below m s₁ 14 #[iv p1, iv p2, iv (((p1.toUInt32 >>> (((2 : Int32) * p2) &&& 31).toUInt32).toInt32) &&& (3 : Int32))] [(.int (63 : Int32))] t → B t := fun t kk => pre1 t (by
      refine XS.ifNo X0.here hx rfl (hb hby d1_9) rfl ((if0 _ _).trans (teq hc2).2) ?_
      show SS p e below m s₁ 12 #[iv p1, iv p2, iv (((p1.toUInt32 >>> (((2 : Int32) * p2) &&& 31).toUInt32).toInt32) &&& (3 : Int32))] [] _
      refine XS.bipush X0.here hx rfl (hb hby d1_12) ?_
      show SS p e below m s₁ 14 #[iv p1, iv p2, iv (((p1.toUInt32 >>> (((2 : Int32) * p2) &&& 31).toUInt32).toInt32) &&& (3 : Int32))] [(.int (63 : Int32))] _
      exact kk)
    obtain ⟨fs, hr, hrun, hended, hW, hsame⟩ := X0.leave (v := some (.int (63 : Int32))) (fun h => by rw [Bd.returns] at h; cases h)
    refine ⟨_, _, hB _ (pre3 _ ?_), hrun, hended, _, _, rfl, ?_, ⟨_, rfl⟩, hW, hsame.mono (by decide) (by decide)⟩
    · exact retN X0 hx (t := .char) Bd.returns (by simp) (hb hby d1_14) hr
    · exact ⟨by show _ = some (Value.int (f1 p1 p2)); rw [f1, if_pos hc2], N0, e0⟩
  · have pre4 : ∀ t, SS p e below m s₁ 17 #[iv p1, iv p2, iv (((p1.toUInt32 >>> (((2 : Int32) * p2) &&& 31).toUInt32).toInt32) &&& (3 : Int32))] [(.int (1 : Int32)), (.int (((p1.toUInt32 >>> (((2 : Int32) * p2) &&& 31).toUInt32).toInt32) &&& (3 : Int32)))] t → B t := fun t kk => pre1 t (by
      refine XS.ifYes X0.here hx rfl (pc0 := 9) (pc' := 15) rfl (hb hby d1_9) rfl ((if0 _ _).trans (feq hc2).2) (by decide) (by decide) ?_
      show SS p e below m s₁ 15 #[iv p1, iv p2, iv (((p1.toUInt32 >>> (((2 : Int32) * p2) &&& 31).toUInt32).toInt32) &&& (3 : Int32))] [] _
      refine XS.iloadN X0.here hx rfl (hb hby d1_15) rfl ?_
      show SS p e below m s₁ 16 #[iv p1, iv p2, iv (((p1.toUInt32 >>> (((2 : Int32) * p2) &&& 31).toUInt32).toInt32) &&& (3 : Int32))] [(.int (((p1.toUInt32 >>> (((2 : Int32) * p2) &&& 31).toUInt32).toInt32) &&& (3 : Int32)))] _
      refine XS.iconst X0.here hx rfl (hb hby d1_16) ?_
      show SS p e below m s₁ 17 #[iv p1, iv p2, iv (((p1.toUInt32 >>> (((2 : Int32) * p2) &&& 31).toUInt32).toInt32) &&& (3 : Int32))] [(.int (1 : Int32)), (.int (((p1.toUInt32 >>> (((2 : Int32) * p2) &&& 31).toUInt32).toInt32) &&& (3 : Int32)))] _
      exact kk)
    by_cases hc5 : (((p1.toUInt32 >>> (((2 : Int32) * p2) &&& 31).toUInt32).toInt32) &&& (3 : Int32)) = (1 : Int32)
    · have pre6 : ∀ t, SS p e below m s₁ 22 #[iv p1, iv p2, iv (((p1.toUInt32 >>> (((2 : Int32) * p2) &&& 31).toUInt32).toInt32) &&& (3 : Int32))] [(.int (62 : Int32))] t → B t := fun t kk => pre4 t (by
        refine XS.icmpNo X0.here hx rfl (hb hby d1_17) rfl (teq hc5).2 ?_
        show SS p e below m s₁ 20 #[iv p1, iv p2, iv (((p1.toUInt32 >>> (((2 : Int32) * p2) &&& 31).toUInt32).toInt32) &&& (3 : Int32))] [] _
        refine XS.bipush X0.here hx rfl (hb hby d1_20) ?_
        show SS p e below m s₁ 22 #[iv p1, iv p2, iv (((p1.toUInt32 >>> (((2 : Int32) * p2) &&& 31).toUInt32).toInt32) &&& (3 : Int32))] [(.int (62 : Int32))] _
        exact kk)
      obtain ⟨fs, hr, hrun, hended, hW, hsame⟩ := X0.leave (v := some (.int (62 : Int32))) (fun h => by rw [Bd.returns] at h; cases h)
      refine ⟨_, _, hB _ (pre6 _ ?_), hrun, hended, _, _, rfl, ?_, ⟨_, rfl⟩, hW, hsame.mono (by decide) (by decide)⟩
      · exact retN X0 hx (t := .char) Bd.returns (by simp) (hb hby d1_22) hr
      · exact ⟨by show _ = some (Value.int (f1 p1 p2)); rw [f1, if_neg hc2, if_pos hc5], N0, e0⟩
    · have pre7 : ∀ t, SS p e below m s₁ 25 #[iv p1, iv p2, iv (((p1.toUInt32 >>> (((2 : Int32) * p2) &&& 31).toUInt32).toInt32) &&& (3 : Int32))] [(.int (2 : Int32)), (.int (((p1.toUInt32 >>> (((2 : Int32) * p2) &&& 31).toUInt32).toInt32) &&& (3 : Int32)))] t → B t := fun t kk => pre4 t (by
        refine XS.icmpYes X0.here hx rfl (pc0 := 17) (pc' := 23) rfl (hb hby d1_17) rfl (feq hc5).2 (by decide) (by decide) ?_
        show SS p e below m s₁ 23 #[iv p1, iv p2, iv (((p1.toUInt32 >>> (((2 : Int32) * p2) &&& 31).toUInt32).toInt32) &&& (3 : Int32))] [] _
        refine XS.iloadN X0.here hx rfl (hb hby d1_23) rfl ?_
        show SS p e below m s₁ 24 #[iv p1, iv p2, iv (((p1.toUInt32 >>> (((2 : Int32) * p2) &&& 31).toUInt32).toInt32) &&& (3 : Int32))] [(.int (((p1.toUInt32 >>> (((2 : Int32) * p2) &&& 31).toUInt32).toInt32) &&& (3 : Int32)))] _
        refine XS.iconst X0.here hx rfl (hb hby d1_24) ?_
        show SS p e below m s₁ 25 #[iv p1, iv p2, iv (((p1.toUInt32 >>> (((2 : Int32) * p2) &&& 31).toUInt32).toInt32) &&& (3 : Int32))] [(.int (2 : Int32)), (.int (((p1.toUInt32 >>> (((2 : Int32) * p2) &&& 31).toUInt32).toInt32) &&& (3 : Int32)))] _
        exact kk)
      by_cases hc8 : (((p1.toUInt32 >>> (((2 : Int32) * p2) &&& 31).toUInt32).toInt32) &&& (3 : Int32)) = (2 : Int32)
      · have pre9 : ∀ t, SS p e below m s₁ 30 #[iv p1, iv p2, iv (((p1.toUInt32 >>> (((2 : Int32) * p2) &&& 31).toUInt32).toInt32) &&& (3 : Int32))] [(.int (60 : Int32))] t → B t := fun t kk => pre7 t (by
          refine XS.icmpNo X0.here hx rfl (hb hby d1_25) rfl (teq hc8).2 ?_
          show SS p e below m s₁ 28 #[iv p1, iv p2, iv (((p1.toUInt32 >>> (((2 : Int32) * p2) &&& 31).toUInt32).toInt32) &&& (3 : Int32))] [] _
          refine XS.bipush X0.here hx rfl (hb hby d1_28) ?_
          show SS p e below m s₁ 30 #[iv p1, iv p2, iv (((p1.toUInt32 >>> (((2 : Int32) * p2) &&& 31).toUInt32).toInt32) &&& (3 : Int32))] [(.int (60 : Int32))] _
          exact kk)
        obtain ⟨fs, hr, hrun, hended, hW, hsame⟩ := X0.leave (v := some (.int (60 : Int32))) (fun h => by rw [Bd.returns] at h; cases h)
        refine ⟨_, _, hB _ (pre9 _ ?_), hrun, hended, _, _, rfl, ?_, ⟨_, rfl⟩, hW, hsame.mono (by decide) (by decide)⟩
        · exact retN X0 hx (t := .char) Bd.returns (by simp) (hb hby d1_30) hr
        · exact ⟨by show _ = some (Value.int (f1 p1 p2)); rw [f1, if_neg hc2, if_neg hc5, if_pos hc8], N0, e0⟩
      · have pre10 : ∀ t, SS p e below m s₁ 33 #[iv p1, iv p2, iv (((p1.toUInt32 >>> (((2 : Int32) * p2) &&& 31).toUInt32).toInt32) &&& (3 : Int32))] [(.int (97 : Int32))] t → B t := fun t kk => pre7 t (by
          refine XS.icmpYes X0.here hx rfl (pc0 := 25) (pc' := 31) rfl (hb hby d1_25) rfl (feq hc8).2 (by decide) (by decide) ?_
          show SS p e below m s₁ 31 #[iv p1, iv p2, iv (((p1.toUInt32 >>> (((2 : Int32) * p2) &&& 31).toUInt32).toInt32) &&& (3 : Int32))] [] _
          refine XS.bipush X0.here hx rfl (hb hby d1_31) ?_
          show SS p e below m s₁ 33 #[iv p1, iv p2, iv (((p1.toUInt32 >>> (((2 : Int32) * p2) &&& 31).toUInt32).toInt32) &&& (3 : Int32))] [(.int (97 : Int32))] _
          exact kk)
        obtain ⟨fs, hr, hrun, hended, hW, hsame⟩ := X0.leave (v := some (.int (97 : Int32))) (fun h => by rw [Bd.returns] at h; cases h)
        refine ⟨_, _, hB _ (pre10 _ ?_), hrun, hended, _, _, rfl, ?_, ⟨_, rfl⟩, hW, hsame.mono (by decide) (by decide)⟩
        · exact retN X0 hx (t := .char) Bd.returns (by simp) (hb hby d1_33) hr
        · exact ⟨by show _ = some (Value.int (f1 p1 p2)); rw [f1, if_neg hc2, if_neg hc5, if_neg hc8], N0, e0⟩
theorem own_in8 (j : Int32) (h : 0 ≤ j.toInt ∧ j.toInt < 8) : ¬ j < 0 ∧ j < (8 : Int32) := by
  have L0 : (0 : Int32).toInt = 0 := by decide
  have L8 : (8 : Int32).toInt = 8 := by decide
  rw [Int32.lt_iff_toInt_lt, Int32.lt_iff_toInt_lt]; omega
theorem own_sub1 (x : Int32) (h : 1 ≤ x.toInt) : (x - (1 : Int32)).toInt = x.toInt - 1 := by
  have a := c_isub x 1
  have r := rng32 (x - 1)
  have r2 := rng32 x
  have L1 : (1 : Int32).toInt = 1 := by decide
  omega
theorem own_inc (x : Int32) (h : x.toInt < 100) : (x + (1 : Int32)).toInt = x.toInt + 1 := by
  have a := c_iadd x 1
  have r := rng32 (x + 1)
  have r2 := rng32 x
  have L1 : (1 : Int32).toInt = 1 := by decide
  omega
theorem own_lt {x y : Int32} (h : x < y) : x.toInt < y.toInt := Int32.lt_iff_toInt_lt.mp h
theorem own_nl {x y : Int32} (h : ¬ x < y) : y.toInt ≤ x.toInt := by rw [Int32.lt_iff_toInt_lt] at h; omega
theorem d6_0 : decode method_4_code 0 = .ok (.iload_n 1, 1) := by decide +kernel
theorem d6_1 : decode method_4_code 1 = .ok (.iload_n 2, 1) := by decide +kernel
theorem d6_2 : decode method_4_code 2 = .ok (.if_icmp .lt 20, 3) := by decide +kernel
theorem d6_5 : decode method_4_code 5 = .ok (.iload_n 1, 1) := by decide +kernel
theorem d6_6 : decode method_4_code 6 = .ok (.iload_n 3, 1) := by decide +kernel
theorem d6_7 : decode method_4_code 7 = .ok (.if_icmp .ge 15, 3) := by decide +kernel
theorem d6_10 : decode method_4_code 10 = .ok (.aload_n 0, 1) := by decide +kernel
theorem d6_11 : decode method_4_code 11 = .ok (.iload_n 1, 1) := by decide +kernel
theorem d6_12 : decode method_4_code 12 = .ok (.caload, 1) := by decide +kernel
theorem d6_13 : decode method_4_code 13 = .ok (.iload 4, 2) := by decide +kernel
theorem d6_15 : decode method_4_code 15 = .ok (.if_icmp .ne 7, 3) := by decide +kernel
theorem d6_18 : decode method_4_code 18 = .ok (.iconst 1, 1) := by decide +kernel
theorem d6_19 : decode method_4_code 19 = .ok (.goto 4, 3) := by decide +kernel
theorem d6_22 : decode method_4_code 22 = .ok (.iconst 0, 1) := by decide +kernel
theorem d6_23 : decode method_4_code 23 = .ok (.ireturn, 1) := by decide +kernel
theorem pn_6 : plainName "com/example/mendmark/mendmark/core/ScannerDeclarationEndPinLaw" = true := by first | (simp [plainName, overriddenIn]; done) | decide +kernel
theorem ef_6 (m : MethodId) (a1 : Addr) (p2 : Int32) (p3 : Int32) (p4 : Int32) (p5 : Int32) : entryFrame m #[(.ref a1), (.int p2), (.int p3), (.int p4), (.int p5)] 5 = mkF m 0 #[rv a1, iv p2, iv p3, iv p4, iv p5] [] := by first | (simp [entryFrame, mkF, argsToLocals, Value.category]; done) | rfl
def f6 (p2 : Int32) (p3 : Int32) (p4 : Int32) (p5 : Int32) (vs : List Int32) : Int32 := (if p2 < p3 then (0 : Int32) else (if p2 < p4 then (if (vs.getD (p2).toNatClampNeg 0) = p5 then (1 : Int32) else (0 : Int32)) else (0 : Int32)))
set_option maxRecDepth 65536 in
set_option maxHeartbeats 40000000 in
theorem rm6 (l : Launch) (Z : State) (a0 : Array Value) (hw : ∀ d ∈ tables_1, d.before a0 Z = true) (ws : List Jvm.Cond) (a1 : Addr) (p2 : Int32) (p3 : Int32) (p4 : Int32) (p5 : Int32) (ka : ClassId) (vs : List Int32) (h0 : Heap) (n0 : Nat) (Z0 : n0 ≤ h0.size) (V_a1 : Arv Z h0 a1 ka .char (8 : Int32) (vs.map Value.int) (.int (0 : Int32))) (hlim : p4.toInt ≤ 8) (hfr : 2 ≤ p3.toInt) :
    MetFree l (⟨"com/example/mendmark/mendmark/core/ScannerDeclarationEndPinLaw", "hit", "([CIIIC)Z"⟩ : MethodName) (head1 (Jvm.Cond.code (⟨"com/example/mendmark/mendmark/core/ScannerDeclarationEndPinLaw", "hit", "([CIIIC)Z"⟩ : MethodName) method_4_code 5 (some .boolean) :: ws) ({ frames := 0, cells := 0, slots := 0, locals := 0 } : Room)) (fun a U => a = #[(.ref a1), (.int p2), (.int p3), (.int p4), (.int p5)] ∧ Z.Warmed39 U.vm ∧ U.heap = h0) (fun _ _ _ _ _ => True) (fun _ U o U' => ∃ v L, o = .returned v ∧ QI (f6 p2 p3 p4 p5 vs) h0 n0 v U'.heap L ∧ FrameEnd U o U' L ({ frames := 0, cells := 0, slots := 0, locals := 0 } : Room).cells ({ frames := 0, cells := 0, slots := 0, locals := 0 } : Room).slots) := by
  refine MetFree.of_bodySF (plainFor_of_name pn_6) hisR ?_
  intro p e s m args below meth c s₁ Bd hml0 hP hK
  obtain ⟨rfl, hZ, hh⟩ := hP
  have hx := Bd.exec
  have hby := Bd.bytes
  have hml : c.maxLocals = 5 := hml0
  have hown : s.vm.findClass "com/example/mendmark/mendmark/core/ScannerDeclarationEndPinLaw" = some m.cls := findClass_of_methodNamed Bd.named
  have hnm := (name_of_methodNamed Bd.named Bd.method).1
  have X0 : Stand p l e ({ frames := 0, cells := 0, slots := 0, locals := 0 } : Room) s m #[(.ref a1), (.int p2), (.int p3), (.int p4), (.int p5)] below meth c s₁ [] 0 0 := Stand.of_body Bd
  have e0 : s₁.heap = h0 := by rw [← hh, Bd.state]; rfl
  have N0 := Fr.nil n0
  obtain ⟨B, hB, pre0⟩ : ∃ B : State → Prop, (∀ t, B t → Steps p.tables e below (s₁.setTop (entryFrame m #[(.ref a1), (.int p2), (.int p3), (.int p4), (.int p5)] 5)) t) ∧ ∀ t, SS p e below m s₁ 0 #[rv a1, iv p2, iv p3, iv p4, iv p5] [] t → B t := ⟨_, fun _ q => q, fun t kk => castTop (ef_6 m a1 p2 p3 p4 p5) kk⟩
  have pre1 : ∀ t, SS p e below m s₁ 2 #[rv a1, iv p2, iv p3, iv p4, iv p5] [(.int p3), (.int p2)] t → B t := fun t kk => pre0 t (by
    show SS p e below m s₁ 0 #[rv a1, iv p2, iv p3, iv p4, iv p5] [] _
    refine XS.iloadN X0.here hx rfl (hb hby d6_0) rfl ?_
    show SS p e below m s₁ 1 #[rv a1, iv p2, iv p3, iv p4, iv p5] [(.int p2)] _
    refine XS.iloadN X0.here hx rfl (hb hby d6_1) rfl ?_
    show SS p e below m s₁ 2 #[rv a1, iv p2, iv p3, iv p4, iv p5] [(.int p3), (.int p2)] _
    exact kk)
  by_cases hc2 : p2 < p3
  · have pre3 : ∀ t, SS p e below m s₁ 23 #[rv a1, iv p2, iv p3, iv p4, iv p5] [(.int (0 : Int32))] t → B t := fun t kk => pre1 t (by
      refine XS.icmpYes X0.here hx rfl (pc0 := 2) (pc' := 22) rfl (hb hby d6_2) rfl (tlt hc2).1 (by decide) (by decide) ?_
      show SS p e below m s₁ 22 #[rv a1, iv p2, iv p3, iv p4, iv p5] [] _
      refine XS.iconst X0.here hx rfl (hb hby d6_22) ?_
      show SS p e below m s₁ 23 #[rv a1, iv p2, iv p3, iv p4, iv p5] [(.int (0 : Int32))] _
      exact kk)
    obtain ⟨fs, hr, hrun, hended, hW, hsame⟩ := X0.leave (v := some (.int (0 : Int32))) (fun h => by rw [Bd.returns] at h; cases h)
    refine ⟨_, _, hB _ (pre3 _ ?_), hrun, hended, _, _, rfl, ?_, ⟨_, rfl⟩, hW, hsame.mono (by decide) (by decide)⟩
    · exact retN X0 hx (t := .boolean) Bd.returns (by simp) (hb hby d6_23) hr
    · exact ⟨by show _ = some (Value.int (f6 p2 p3 p4 p5 vs)); rw [f6, if_pos hc2], N0, e0⟩
  · have pre4 : ∀ t, SS p e below m s₁ 7 #[rv a1, iv p2, iv p3, iv p4, iv p5] [(.int p4), (.int p2)] t → B t := fun t kk => pre1 t (by
      refine XS.icmpNo X0.here hx rfl (hb hby d6_2) rfl (flt hc2).1 ?_
      show SS p e below m s₁ 5 #[rv a1, iv p2, iv p3, iv p4, iv p5] [] _
      refine XS.iloadN X0.here hx rfl (hb hby d6_5) rfl ?_
      show SS p e below m s₁ 6 #[rv a1, iv p2, iv p3, iv p4, iv p5] [(.int p2)] _
      refine XS.iloadN X0.here hx rfl (hb hby d6_6) rfl ?_
      show SS p e below m s₁ 7 #[rv a1, iv p2, iv p3, iv p4, iv p5] [(.int p4), (.int p2)] _
      exact kk)
    by_cases hc5 : p2 < p4
    · have pre6 : ∀ t, SS p e below m s₁ 12 #[rv a1, iv p2, iv p3, iv p4, iv p5] [(.int p2), (.ref a1)] t → B t := fun t kk => pre4 t (by
        refine XS.icmpNo X0.here hx rfl (hb hby d6_7) rfl (tlt hc5).2.1 ?_
        show SS p e below m s₁ 10 #[rv a1, iv p2, iv p3, iv p4, iv p5] [] _
        refine XS.aloadN X0.here hx rfl (hb hby d6_10) rfl rfl ?_
        show SS p e below m s₁ 11 #[rv a1, iv p2, iv p3, iv p4, iv p5] [(.ref a1)] _
        refine XS.iloadN X0.here hx rfl (hb hby d6_11) rfl ?_
        show SS p e below m s₁ 12 #[rv a1, iv p2, iv p3, iv p4, iv p5] [(.int p2), (.ref a1)] _
        exact kk)
      obtain ⟨cl7, Ar7, -, S7, -, H7, -⟩ := id V_a1
      have hin7 : ¬ (p2 < 0 ∨ cl7.slots.size ≤ (p2).toNatClampNeg) := inb_of S7 (own_in8 p2 (by
        have := own_nl hc2
        have := own_lt hc5
        have L0 : (0 : Int32).toInt = 0 := by decide
        have L1 : (1 : Int32).toInt = 1 := by decide
        have L2 : (2 : Int32).toInt = 2 := by decide
        have L8 : (8 : Int32).toInt = 8 := by decide
        omega))
      have hat7 : cl7.slots[(p2).toNatClampNeg]? = some (.int (vs.getD (p2).toNatClampNeg 0)) := by
        rw [H7 _ (Nat.lt_of_not_le fun q => hin7 (Or.inr q))]; exact congrArg some (own_getD vs _ 0)
      have pre8 : ∀ t, SS p e below m s₁ 15 #[rv a1, iv p2, iv p3, iv p4, iv p5] [(.int p5), (.int (vs.getD (p2).toNatClampNeg 0))] t → B t := fun t kk => pre6 t (by
        refine X0.caload hx (j := p2) (v := (.int (vs.getD (p2).toNatClampNeg 0))) (by rw [e0]; exact Ar7.1) (State.isArrayOf_alike hZ.alike Ar7.2.1) Ar7.2.2 hin7 hat7 (g := (mkF m 12 #[rv a1, iv p2, iv p3, iv p4, iv p5] [(.int p2), (.ref a1)])) rfl rfl (hb hby d6_12) _ ?_
        show SS p e below m s₁ 13 #[rv a1, iv p2, iv p3, iv p4, iv p5] [(.int (vs.getD (p2).toNatClampNeg 0))] _
        refine XS.iload X0.here hx rfl (hb hby d6_13) rfl ?_
        show SS p e below m s₁ 15 #[rv a1, iv p2, iv p3, iv p4, iv p5] [(.int p5), (.int (vs.getD (p2).toNatClampNeg 0))] _
        exact kk)
      by_cases hc9 : (vs.getD (p2).toNatClampNeg 0) = p5
      · have pre10 : ∀ t, SS p e below m s₁ 23 #[rv a1, iv p2, iv p3, iv p4, iv p5] [(.int (1 : Int32))] t → B t := fun t kk => pre8 t (by
          refine XS.icmpNo X0.here hx rfl (hb hby d6_15) rfl (teq hc9).2 ?_
          show SS p e below m s₁ 18 #[rv a1, iv p2, iv p3, iv p4, iv p5] [] _
          refine XS.iconst X0.here hx rfl (hb hby d6_18) ?_
          show SS p e below m s₁ 19 #[rv a1, iv p2, iv p3, iv p4, iv p5] [(.int (1 : Int32))] _
          refine XS.goto X0.here hx rfl (pc0 := 19) (pc' := 23) rfl (hb hby d6_19) (by decide) (by decide) ?_
          show SS p e below m s₁ 23 #[rv a1, iv p2, iv p3, iv p4, iv p5] [(.int (1 : Int32))] _
          exact kk)
        obtain ⟨fs, hr, hrun, hended, hW, hsame⟩ := X0.leave (v := some (.int (1 : Int32))) (fun h => by rw [Bd.returns] at h; cases h)
        refine ⟨_, _, hB _ (pre10 _ ?_), hrun, hended, _, _, rfl, ?_, ⟨_, rfl⟩, hW, hsame.mono (by decide) (by decide)⟩
        · exact retN X0 hx (t := .boolean) Bd.returns (by simp) (hb hby d6_23) hr
        · exact ⟨by show _ = some (Value.int (f6 p2 p3 p4 p5 vs)); rw [f6, if_neg hc2, if_pos hc5, if_pos hc9], N0, e0⟩
      · have pre11 : ∀ t, SS p e below m s₁ 23 #[rv a1, iv p2, iv p3, iv p4, iv p5] [(.int (0 : Int32))] t → B t := fun t kk => pre8 t (by
          refine XS.icmpYes X0.here hx rfl (pc0 := 15) (pc' := 22) rfl (hb hby d6_15) rfl (feq hc9).2 (by decide) (by decide) ?_
          show SS p e below m s₁ 22 #[rv a1, iv p2, iv p3, iv p4, iv p5] [] _
          refine XS.iconst X0.here hx rfl (hb hby d6_22) ?_
          show SS p e below m s₁ 23 #[rv a1, iv p2, iv p3, iv p4, iv p5] [(.int (0 : Int32))] _
          exact kk)
        obtain ⟨fs, hr, hrun, hended, hW, hsame⟩ := X0.leave (v := some (.int (0 : Int32))) (fun h => by rw [Bd.returns] at h; cases h)
        refine ⟨_, _, hB _ (pre11 _ ?_), hrun, hended, _, _, rfl, ?_, ⟨_, rfl⟩, hW, hsame.mono (by decide) (by decide)⟩
        · exact retN X0 hx (t := .boolean) Bd.returns (by simp) (hb hby d6_23) hr
        · exact ⟨by show _ = some (Value.int (f6 p2 p3 p4 p5 vs)); rw [f6, if_neg hc2, if_pos hc5, if_neg hc9], N0, e0⟩
    · have pre12 : ∀ t, SS p e below m s₁ 23 #[rv a1, iv p2, iv p3, iv p4, iv p5] [(.int (0 : Int32))] t → B t := fun t kk => pre4 t (by
        refine XS.icmpYes X0.here hx rfl (pc0 := 7) (pc' := 22) rfl (hb hby d6_7) rfl (flt hc5).2.1 (by decide) (by decide) ?_
        show SS p e below m s₁ 22 #[rv a1, iv p2, iv p3, iv p4, iv p5] [] _
        refine XS.iconst X0.here hx rfl (hb hby d6_22) ?_
        show SS p e below m s₁ 23 #[rv a1, iv p2, iv p3, iv p4, iv p5] [(.int (0 : Int32))] _
        exact kk)
      obtain ⟨fs, hr, hrun, hended, hW, hsame⟩ := X0.leave (v := some (.int (0 : Int32))) (fun h => by rw [Bd.returns] at h; cases h)
      refine ⟨_, _, hB _ (pre12 _ ?_), hrun, hended, _, _, rfl, ?_, ⟨_, rfl⟩, hW, hsame.mono (by decide) (by decide)⟩
      · exact retN X0 hx (t := .boolean) Bd.returns (by simp) (hb hby d6_23) hr
      · exact ⟨by show _ = some (Value.int (f6 p2 p3 p4 p5 vs)); rw [f6, if_neg hc2, if_neg hc5], N0, e0⟩
theorem d8_0 : decode method_6_code 0 = .ok (.iload_n 1, 1) := by decide +kernel
theorem d8_1 : decode method_6_code 1 = .ok (.iload_n 2, 1) := by decide +kernel
theorem d8_2 : decode method_6_code 2 = .ok (.if_icmp .lt 30, 3) := by decide +kernel
theorem d8_5 : decode method_6_code 5 = .ok (.iload_n 1, 1) := by decide +kernel
theorem d8_6 : decode method_6_code 6 = .ok (.iload_n 3, 1) := by decide +kernel
theorem d8_7 : decode method_6_code 7 = .ok (.if_icmp .ge 25, 3) := by decide +kernel
theorem d8_10 : decode method_6_code 10 = .ok (.aload_n 0, 1) := by decide +kernel
theorem d8_11 : decode method_6_code 11 = .ok (.iload_n 1, 1) := by decide +kernel
theorem d8_12 : decode method_6_code 12 = .ok (.caload, 1) := by decide +kernel
theorem d8_13 : decode method_6_code 13 = .ok (.bipush 62, 2) := by decide +kernel
theorem d8_15 : decode method_6_code 15 = .ok (.if_icmp .ne 17, 3) := by decide +kernel
theorem d8_18 : decode method_6_code 18 = .ok (.aload_n 0, 1) := by decide +kernel
theorem d8_19 : decode method_6_code 19 = .ok (.iload_n 1, 1) := by decide +kernel
theorem d8_20 : decode method_6_code 20 = .ok (.iconst 1, 1) := by decide +kernel
theorem d8_21 : decode method_6_code 21 = .ok (.isub, 1) := by decide +kernel
theorem d8_22 : decode method_6_code 22 = .ok (.caload, 1) := by decide +kernel
theorem d8_23 : decode method_6_code 23 = .ok (.bipush 63, 2) := by decide +kernel
theorem d8_25 : decode method_6_code 25 = .ok (.if_icmp .ne 7, 3) := by decide +kernel
theorem d8_28 : decode method_6_code 28 = .ok (.iconst 1, 1) := by decide +kernel
theorem d8_29 : decode method_6_code 29 = .ok (.goto 4, 3) := by decide +kernel
theorem d8_32 : decode method_6_code 32 = .ok (.iconst 0, 1) := by decide +kernel
theorem d8_33 : decode method_6_code 33 = .ok (.ireturn, 1) := by decide +kernel
theorem pn_8 : plainName "com/example/mendmark/mendmark/core/ScannerDeclarationEndPinLaw" = true := by first | (simp [plainName, overriddenIn]; done) | decide +kernel
theorem ef_8 (m : MethodId) (a1 : Addr) (p2 : Int32) (p3 : Int32) (p4 : Int32) : entryFrame m #[(.ref a1), (.int p2), (.int p3), (.int p4)] 4 = mkF m 0 #[rv a1, iv p2, iv p3, iv p4] [] := by first | (simp [entryFrame, mkF, argsToLocals, Value.category]; done) | rfl
def f8 (p2 : Int32) (p3 : Int32) (p4 : Int32) (vs : List Int32) : Int32 := (if p2 < p3 then (0 : Int32) else (if p2 < p4 then (if (vs.getD (p2).toNatClampNeg 0) = (62 : Int32) then (if (vs.getD ((p2 - (1 : Int32))).toNatClampNeg 0) = (63 : Int32) then (1 : Int32) else (0 : Int32)) else (0 : Int32)) else (0 : Int32)))
set_option maxRecDepth 65536 in
set_option maxHeartbeats 40000000 in
theorem rm8 (l : Launch) (Z : State) (a0 : Array Value) (hw : ∀ d ∈ tables_1, d.before a0 Z = true) (ws : List Jvm.Cond) (a1 : Addr) (p2 : Int32) (p3 : Int32) (p4 : Int32) (ka : ClassId) (vs : List Int32) (h0 : Heap) (n0 : Nat) (Z0 : n0 ≤ h0.size) (V_a1 : Arv Z h0 a1 ka .char (8 : Int32) (vs.map Value.int) (.int (0 : Int32))) (hlim : p4.toInt ≤ 8) (hfr : 2 ≤ p3.toInt) :
    MetFree l (⟨"com/example/mendmark/mendmark/core/ScannerDeclarationEndPinLaw", "closeAt", "([CIII)Z"⟩ : MethodName) (head1 (Jvm.Cond.code (⟨"com/example/mendmark/mendmark/core/ScannerDeclarationEndPinLaw", "closeAt", "([CIII)Z"⟩ : MethodName) method_6_code 4 (some .boolean) :: ws) ({ frames := 0, cells := 0, slots := 0, locals := 0 } : Room)) (fun a U => a = #[(.ref a1), (.int p2), (.int p3), (.int p4)] ∧ Z.Warmed39 U.vm ∧ U.heap = h0) (fun _ _ _ _ _ => True) (fun _ U o U' => ∃ v L, o = .returned v ∧ QI (f8 p2 p3 p4 vs) h0 n0 v U'.heap L ∧ FrameEnd U o U' L ({ frames := 0, cells := 0, slots := 0, locals := 0 } : Room).cells ({ frames := 0, cells := 0, slots := 0, locals := 0 } : Room).slots) := by
  refine MetFree.of_bodySF (plainFor_of_name pn_8) hisR ?_
  intro p e s m args below meth c s₁ Bd hml0 hP hK
  obtain ⟨rfl, hZ, hh⟩ := hP
  have hx := Bd.exec
  have hby := Bd.bytes
  have hml : c.maxLocals = 4 := hml0
  have hown : s.vm.findClass "com/example/mendmark/mendmark/core/ScannerDeclarationEndPinLaw" = some m.cls := findClass_of_methodNamed Bd.named
  have hnm := (name_of_methodNamed Bd.named Bd.method).1
  have X0 : Stand p l e ({ frames := 0, cells := 0, slots := 0, locals := 0 } : Room) s m #[(.ref a1), (.int p2), (.int p3), (.int p4)] below meth c s₁ [] 0 0 := Stand.of_body Bd
  have e0 : s₁.heap = h0 := by rw [← hh, Bd.state]; rfl
  have N0 := Fr.nil n0
  obtain ⟨B, hB, pre0⟩ : ∃ B : State → Prop, (∀ t, B t → Steps p.tables e below (s₁.setTop (entryFrame m #[(.ref a1), (.int p2), (.int p3), (.int p4)] 4)) t) ∧ ∀ t, SS p e below m s₁ 0 #[rv a1, iv p2, iv p3, iv p4] [] t → B t := ⟨_, fun _ q => q, fun t kk => castTop (ef_8 m a1 p2 p3 p4) kk⟩
  have pre1 : ∀ t, SS p e below m s₁ 2 #[rv a1, iv p2, iv p3, iv p4] [(.int p3), (.int p2)] t → B t := fun t kk => pre0 t (by
    show SS p e below m s₁ 0 #[rv a1, iv p2, iv p3, iv p4] [] _
    refine XS.iloadN X0.here hx rfl (hb hby d8_0) rfl ?_
    show SS p e below m s₁ 1 #[rv a1, iv p2, iv p3, iv p4] [(.int p2)] _
    refine XS.iloadN X0.here hx rfl (hb hby d8_1) rfl ?_
    show SS p e below m s₁ 2 #[rv a1, iv p2, iv p3, iv p4] [(.int p3), (.int p2)] _
    exact kk)
  by_cases hc2 : p2 < p3
  · have pre3 : ∀ t, SS p e below m s₁ 33 #[rv a1, iv p2, iv p3, iv p4] [(.int (0 : Int32))] t → B t := fun t kk => pre1 t (by
      refine XS.icmpYes X0.here hx rfl (pc0 := 2) (pc' := 32) rfl (hb hby d8_2) rfl (tlt hc2).1 (by decide) (by decide) ?_
      show SS p e below m s₁ 32 #[rv a1, iv p2, iv p3, iv p4] [] _
      refine XS.iconst X0.here hx rfl (hb hby d8_32) ?_
      show SS p e below m s₁ 33 #[rv a1, iv p2, iv p3, iv p4] [(.int (0 : Int32))] _
      exact kk)
    obtain ⟨fs, hr, hrun, hended, hW, hsame⟩ := X0.leave (v := some (.int (0 : Int32))) (fun h => by rw [Bd.returns] at h; cases h)
    refine ⟨_, _, hB _ (pre3 _ ?_), hrun, hended, _, _, rfl, ?_, ⟨_, rfl⟩, hW, hsame.mono (by decide) (by decide)⟩
    · exact retN X0 hx (t := .boolean) Bd.returns (by simp) (hb hby d8_33) hr
    · exact ⟨by show _ = some (Value.int (f8 p2 p3 p4 vs)); rw [f8, if_pos hc2], N0, e0⟩
  · have pre4 : ∀ t, SS p e below m s₁ 7 #[rv a1, iv p2, iv p3, iv p4] [(.int p4), (.int p2)] t → B t := fun t kk => pre1 t (by
      refine XS.icmpNo X0.here hx rfl (hb hby d8_2) rfl (flt hc2).1 ?_
      show SS p e below m s₁ 5 #[rv a1, iv p2, iv p3, iv p4] [] _
      refine XS.iloadN X0.here hx rfl (hb hby d8_5) rfl ?_
      show SS p e below m s₁ 6 #[rv a1, iv p2, iv p3, iv p4] [(.int p2)] _
      refine XS.iloadN X0.here hx rfl (hb hby d8_6) rfl ?_
      show SS p e below m s₁ 7 #[rv a1, iv p2, iv p3, iv p4] [(.int p4), (.int p2)] _
      exact kk)
    by_cases hc5 : p2 < p4
    · have pre6 : ∀ t, SS p e below m s₁ 12 #[rv a1, iv p2, iv p3, iv p4] [(.int p2), (.ref a1)] t → B t := fun t kk => pre4 t (by
        refine XS.icmpNo X0.here hx rfl (hb hby d8_7) rfl (tlt hc5).2.1 ?_
        show SS p e below m s₁ 10 #[rv a1, iv p2, iv p3, iv p4] [] _
        refine XS.aloadN X0.here hx rfl (hb hby d8_10) rfl rfl ?_
        show SS p e below m s₁ 11 #[rv a1, iv p2, iv p3, iv p4] [(.ref a1)] _
        refine XS.iloadN X0.here hx rfl (hb hby d8_11) rfl ?_
        show SS p e below m s₁ 12 #[rv a1, iv p2, iv p3, iv p4] [(.int p2), (.ref a1)] _
        exact kk)
      obtain ⟨cl7, Ar7, -, S7, -, H7, -⟩ := id V_a1
      have hin7 : ¬ (p2 < 0 ∨ cl7.slots.size ≤ (p2).toNatClampNeg) := inb_of S7 (own_in8 p2 (by
        have := own_nl hc2
        have := own_lt hc5
        have L0 : (0 : Int32).toInt = 0 := by decide
        have L1 : (1 : Int32).toInt = 1 := by decide
        have L2 : (2 : Int32).toInt = 2 := by decide
        have L8 : (8 : Int32).toInt = 8 := by decide
        omega))
      have hat7 : cl7.slots[(p2).toNatClampNeg]? = some (.int (vs.getD (p2).toNatClampNeg 0)) := by
        rw [H7 _ (Nat.lt_of_not_le fun q => hin7 (Or.inr q))]; exact congrArg some (own_getD vs _ 0)
      have pre8 : ∀ t, SS p e below m s₁ 15 #[rv a1, iv p2, iv p3, iv p4] [(.int (62 : Int32)), (.int (vs.getD (p2).toNatClampNeg 0))] t → B t := fun t kk => pre6 t (by
        refine X0.caload hx (j := p2) (v := (.int (vs.getD (p2).toNatClampNeg 0))) (by rw [e0]; exact Ar7.1) (State.isArrayOf_alike hZ.alike Ar7.2.1) Ar7.2.2 hin7 hat7 (g := (mkF m 12 #[rv a1, iv p2, iv p3, iv p4] [(.int p2), (.ref a1)])) rfl rfl (hb hby d8_12) _ ?_
        show SS p e below m s₁ 13 #[rv a1, iv p2, iv p3, iv p4] [(.int (vs.getD (p2).toNatClampNeg 0))] _
        refine XS.bipush X0.here hx rfl (hb hby d8_13) ?_
        show SS p e below m s₁ 15 #[rv a1, iv p2, iv p3, iv p4] [(.int (62 : Int32)), (.int (vs.getD (p2).toNatClampNeg 0))] _
        exact kk)
      by_cases hc9 : (vs.getD (p2).toNatClampNeg 0) = (62 : Int32)
      · have pre10 : ∀ t, SS p e below m s₁ 22 #[rv a1, iv p2, iv p3, iv p4] [(.int (p2 - (1 : Int32))), (.ref a1)] t → B t := fun t kk => pre8 t (by
          refine XS.icmpNo X0.here hx rfl (hb hby d8_15) rfl (teq hc9).2 ?_
          show SS p e below m s₁ 18 #[rv a1, iv p2, iv p3, iv p4] [] _
          refine XS.aloadN X0.here hx rfl (hb hby d8_18) rfl rfl ?_
          show SS p e below m s₁ 19 #[rv a1, iv p2, iv p3, iv p4] [(.ref a1)] _
          refine XS.iloadN X0.here hx rfl (hb hby d8_19) rfl ?_
          show SS p e below m s₁ 20 #[rv a1, iv p2, iv p3, iv p4] [(.int p2), (.ref a1)] _
          refine XS.iconst X0.here hx rfl (hb hby d8_20) ?_
          show SS p e below m s₁ 21 #[rv a1, iv p2, iv p3, iv p4] [(.int (1 : Int32)), (.int p2), (.ref a1)] _
          refine XS.isub X0.here hx rfl (hb hby d8_21) rfl ?_
          show SS p e below m s₁ 22 #[rv a1, iv p2, iv p3, iv p4] [(.int (p2 - (1 : Int32))), (.ref a1)] _
          exact kk)
        obtain ⟨cl11, Ar11, -, S11, -, H11, -⟩ := id V_a1
        have hin11 : ¬ ((p2 - (1 : Int32)) < 0 ∨ cl11.slots.size ≤ ((p2 - (1 : Int32))).toNatClampNeg) := inb_of S11 (own_in8 (p2 - (1 : Int32)) (by
          have := own_nl hc2
          have := own_lt hc5
          have L0 : (0 : Int32).toInt = 0 := by decide
          have L1 : (1 : Int32).toInt = 1 := by decide
          have L2 : (2 : Int32).toInt = 2 := by decide
          have L8 : (8 : Int32).toInt = 8 := by decide
          have := own_sub1 p2 (by omega)
          omega))
        have hat11 : cl11.slots[((p2 - (1 : Int32))).toNatClampNeg]? = some (.int (vs.getD ((p2 - (1 : Int32))).toNatClampNeg 0)) := by
          rw [H11 _ (Nat.lt_of_not_le fun q => hin11 (Or.inr q))]; exact congrArg some (own_getD vs _ 0)
        have pre12 : ∀ t, SS p e below m s₁ 25 #[rv a1, iv p2, iv p3, iv p4] [(.int (63 : Int32)), (.int (vs.getD ((p2 - (1 : Int32))).toNatClampNeg 0))] t → B t := fun t kk => pre10 t (by
          refine X0.caload hx (j := (p2 - (1 : Int32))) (v := (.int (vs.getD ((p2 - (1 : Int32))).toNatClampNeg 0))) (by rw [e0]; exact Ar11.1) (State.isArrayOf_alike hZ.alike Ar11.2.1) Ar11.2.2 hin11 hat11 (g := (mkF m 22 #[rv a1, iv p2, iv p3, iv p4] [(.int (p2 - (1 : Int32))), (.ref a1)])) rfl rfl (hb hby d8_22) _ ?_
          show SS p e below m s₁ 23 #[rv a1, iv p2, iv p3, iv p4] [(.int (vs.getD ((p2 - (1 : Int32))).toNatClampNeg 0))] _
          refine XS.bipush X0.here hx rfl (hb hby d8_23) ?_
          show SS p e below m s₁ 25 #[rv a1, iv p2, iv p3, iv p4] [(.int (63 : Int32)), (.int (vs.getD ((p2 - (1 : Int32))).toNatClampNeg 0))] _
          exact kk)
        by_cases hc13 : (vs.getD ((p2 - (1 : Int32))).toNatClampNeg 0) = (63 : Int32)
        · have pre14 : ∀ t, SS p e below m s₁ 33 #[rv a1, iv p2, iv p3, iv p4] [(.int (1 : Int32))] t → B t := fun t kk => pre12 t (by
            refine XS.icmpNo X0.here hx rfl (hb hby d8_25) rfl (teq hc13).2 ?_
            show SS p e below m s₁ 28 #[rv a1, iv p2, iv p3, iv p4] [] _
            refine XS.iconst X0.here hx rfl (hb hby d8_28) ?_
            show SS p e below m s₁ 29 #[rv a1, iv p2, iv p3, iv p4] [(.int (1 : Int32))] _
            refine XS.goto X0.here hx rfl (pc0 := 29) (pc' := 33) rfl (hb hby d8_29) (by decide) (by decide) ?_
            show SS p e below m s₁ 33 #[rv a1, iv p2, iv p3, iv p4] [(.int (1 : Int32))] _
            exact kk)
          obtain ⟨fs, hr, hrun, hended, hW, hsame⟩ := X0.leave (v := some (.int (1 : Int32))) (fun h => by rw [Bd.returns] at h; cases h)
          refine ⟨_, _, hB _ (pre14 _ ?_), hrun, hended, _, _, rfl, ?_, ⟨_, rfl⟩, hW, hsame.mono (by decide) (by decide)⟩
          · exact retN X0 hx (t := .boolean) Bd.returns (by simp) (hb hby d8_33) hr
          · exact ⟨by show _ = some (Value.int (f8 p2 p3 p4 vs)); rw [f8, if_neg hc2, if_pos hc5, if_pos hc9, if_pos hc13], N0, e0⟩
        · have pre15 : ∀ t, SS p e below m s₁ 33 #[rv a1, iv p2, iv p3, iv p4] [(.int (0 : Int32))] t → B t := fun t kk => pre12 t (by
            refine XS.icmpYes X0.here hx rfl (pc0 := 25) (pc' := 32) rfl (hb hby d8_25) rfl (feq hc13).2 (by decide) (by decide) ?_
            show SS p e below m s₁ 32 #[rv a1, iv p2, iv p3, iv p4] [] _
            refine XS.iconst X0.here hx rfl (hb hby d8_32) ?_
            show SS p e below m s₁ 33 #[rv a1, iv p2, iv p3, iv p4] [(.int (0 : Int32))] _
            exact kk)
          obtain ⟨fs, hr, hrun, hended, hW, hsame⟩ := X0.leave (v := some (.int (0 : Int32))) (fun h => by rw [Bd.returns] at h; cases h)
          refine ⟨_, _, hB _ (pre15 _ ?_), hrun, hended, _, _, rfl, ?_, ⟨_, rfl⟩, hW, hsame.mono (by decide) (by decide)⟩
          · exact retN X0 hx (t := .boolean) Bd.returns (by simp) (hb hby d8_33) hr
          · exact ⟨by show _ = some (Value.int (f8 p2 p3 p4 vs)); rw [f8, if_neg hc2, if_pos hc5, if_pos hc9, if_neg hc13], N0, e0⟩
      · have pre16 : ∀ t, SS p e below m s₁ 33 #[rv a1, iv p2, iv p3, iv p4] [(.int (0 : Int32))] t → B t := fun t kk => pre8 t (by
          refine XS.icmpYes X0.here hx rfl (pc0 := 15) (pc' := 32) rfl (hb hby d8_15) rfl (feq hc9).2 (by decide) (by decide) ?_
          show SS p e below m s₁ 32 #[rv a1, iv p2, iv p3, iv p4] [] _
          refine XS.iconst X0.here hx rfl (hb hby d8_32) ?_
          show SS p e below m s₁ 33 #[rv a1, iv p2, iv p3, iv p4] [(.int (0 : Int32))] _
          exact kk)
        obtain ⟨fs, hr, hrun, hended, hW, hsame⟩ := X0.leave (v := some (.int (0 : Int32))) (fun h => by rw [Bd.returns] at h; cases h)
        refine ⟨_, _, hB _ (pre16 _ ?_), hrun, hended, _, _, rfl, ?_, ⟨_, rfl⟩, hW, hsame.mono (by decide) (by decide)⟩
        · exact retN X0 hx (t := .boolean) Bd.returns (by simp) (hb hby d8_33) hr
        · exact ⟨by show _ = some (Value.int (f8 p2 p3 p4 vs)); rw [f8, if_neg hc2, if_pos hc5, if_neg hc9], N0, e0⟩
    · have pre17 : ∀ t, SS p e below m s₁ 33 #[rv a1, iv p2, iv p3, iv p4] [(.int (0 : Int32))] t → B t := fun t kk => pre4 t (by
        refine XS.icmpYes X0.here hx rfl (pc0 := 7) (pc' := 32) rfl (hb hby d8_7) rfl (flt hc5).2.1 (by decide) (by decide) ?_
        show SS p e below m s₁ 32 #[rv a1, iv p2, iv p3, iv p4] [] _
        refine XS.iconst X0.here hx rfl (hb hby d8_32) ?_
        show SS p e below m s₁ 33 #[rv a1, iv p2, iv p3, iv p4] [(.int (0 : Int32))] _
        exact kk)
      obtain ⟨fs, hr, hrun, hended, hW, hsame⟩ := X0.leave (v := some (.int (0 : Int32))) (fun h => by rw [Bd.returns] at h; cases h)
      refine ⟨_, _, hB _ (pre17 _ ?_), hrun, hended, _, _, rfl, ?_, ⟨_, rfl⟩, hW, hsame.mono (by decide) (by decide)⟩
      · exact retN X0 hx (t := .boolean) Bd.returns (by simp) (hb hby d8_33) hr
      · exact ⟨by show _ = some (Value.int (f8 p2 p3 p4 vs)); rw [f8, if_neg hc2, if_neg hc5], N0, e0⟩
theorem d5_0 : decode method_5_code 0 = .ok (.iload_n 2, 1) := by decide +kernel
theorem d5_1 : decode method_5_code 1 = .ok (.istore 4, 2) := by decide +kernel
theorem d5_3 : decode method_5_code 3 = .ok (.aload_n 0, 1) := by decide +kernel
theorem d5_4 : decode method_5_code 4 = .ok (.bipush 7, 2) := by decide +kernel
theorem d5_6 : decode method_5_code 6 = .ok (.iload_n 1, 1) := by decide +kernel
theorem d5_7 : decode method_5_code 7 = .ok (.iload_n 2, 1) := by decide +kernel
theorem d5_8 : decode method_5_code 8 = .ok (.iload_n 3, 1) := by decide +kernel
theorem d5_9 : decode method_5_code 9 = .ok (.invokestatic 35, 3) := by decide +kernel
theorem d5_12 : decode method_5_code 12 = .ok (.ifCond .eq 7, 3) := by decide +kernel
theorem d5_15 : decode method_5_code 15 = .ok (.bipush 7, 2) := by decide +kernel
theorem d5_17 : decode method_5_code 17 = .ok (.istore 4, 2) := by decide +kernel
theorem d5_19 : decode method_5_code 19 = .ok (.aload_n 0, 1) := by decide +kernel
theorem d5_20 : decode method_5_code 20 = .ok (.bipush 6, 2) := by decide +kernel
theorem d5_22 : decode method_5_code 22 = .ok (.iload_n 1, 1) := by decide +kernel
theorem d5_23 : decode method_5_code 23 = .ok (.iload_n 2, 1) := by decide +kernel
theorem d5_24 : decode method_5_code 24 = .ok (.iload_n 3, 1) := by decide +kernel
theorem d5_25 : decode method_5_code 25 = .ok (.invokestatic 35, 3) := by decide +kernel
theorem d5_28 : decode method_5_code 28 = .ok (.ifCond .eq 7, 3) := by decide +kernel
theorem d5_31 : decode method_5_code 31 = .ok (.bipush 6, 2) := by decide +kernel
theorem d5_33 : decode method_5_code 33 = .ok (.istore 4, 2) := by decide +kernel
theorem d5_35 : decode method_5_code 35 = .ok (.aload_n 0, 1) := by decide +kernel
theorem d5_36 : decode method_5_code 36 = .ok (.iconst 5, 1) := by decide +kernel
theorem d5_37 : decode method_5_code 37 = .ok (.iload_n 1, 1) := by decide +kernel
theorem d5_38 : decode method_5_code 38 = .ok (.iload_n 2, 1) := by decide +kernel
theorem d5_39 : decode method_5_code 39 = .ok (.iload_n 3, 1) := by decide +kernel
theorem d5_40 : decode method_5_code 40 = .ok (.invokestatic 35, 3) := by decide +kernel
theorem d5_43 : decode method_5_code 43 = .ok (.ifCond .eq 6, 3) := by decide +kernel
theorem d5_46 : decode method_5_code 46 = .ok (.iconst 5, 1) := by decide +kernel
theorem d5_47 : decode method_5_code 47 = .ok (.istore 4, 2) := by decide +kernel
theorem d5_49 : decode method_5_code 49 = .ok (.aload_n 0, 1) := by decide +kernel
theorem d5_50 : decode method_5_code 50 = .ok (.iconst 4, 1) := by decide +kernel
theorem d5_51 : decode method_5_code 51 = .ok (.iload_n 1, 1) := by decide +kernel
theorem d5_52 : decode method_5_code 52 = .ok (.iload_n 2, 1) := by decide +kernel
theorem d5_53 : decode method_5_code 53 = .ok (.iload_n 3, 1) := by decide +kernel
theorem d5_54 : decode method_5_code 54 = .ok (.invokestatic 35, 3) := by decide +kernel
theorem d5_57 : decode method_5_code 57 = .ok (.ifCond .eq 6, 3) := by decide +kernel
theorem d5_60 : decode method_5_code 60 = .ok (.iconst 4, 1) := by decide +kernel
theorem d5_61 : decode method_5_code 61 = .ok (.istore 4, 2) := by decide +kernel
theorem d5_63 : decode method_5_code 63 = .ok (.aload_n 0, 1) := by decide +kernel
theorem d5_64 : decode method_5_code 64 = .ok (.iconst 3, 1) := by decide +kernel
theorem d5_65 : decode method_5_code 65 = .ok (.iload_n 1, 1) := by decide +kernel
theorem d5_66 : decode method_5_code 66 = .ok (.iload_n 2, 1) := by decide +kernel
theorem d5_67 : decode method_5_code 67 = .ok (.iload_n 3, 1) := by decide +kernel
theorem d5_68 : decode method_5_code 68 = .ok (.invokestatic 35, 3) := by decide +kernel
theorem d5_71 : decode method_5_code 71 = .ok (.ifCond .eq 6, 3) := by decide +kernel
theorem d5_74 : decode method_5_code 74 = .ok (.iconst 3, 1) := by decide +kernel
theorem d5_75 : decode method_5_code 75 = .ok (.istore 4, 2) := by decide +kernel
theorem d5_77 : decode method_5_code 77 = .ok (.aload_n 0, 1) := by decide +kernel
theorem d5_78 : decode method_5_code 78 = .ok (.iconst 2, 1) := by decide +kernel
theorem d5_79 : decode method_5_code 79 = .ok (.iload_n 1, 1) := by decide +kernel
theorem d5_80 : decode method_5_code 80 = .ok (.iload_n 2, 1) := by decide +kernel
theorem d5_81 : decode method_5_code 81 = .ok (.iload_n 3, 1) := by decide +kernel
theorem d5_82 : decode method_5_code 82 = .ok (.invokestatic 35, 3) := by decide +kernel
theorem d5_85 : decode method_5_code 85 = .ok (.ifCond .eq 6, 3) := by decide +kernel
theorem d5_88 : decode method_5_code 88 = .ok (.iconst 2, 1) := by decide +kernel
theorem d5_89 : decode method_5_code 89 = .ok (.istore 4, 2) := by decide +kernel
theorem d5_91 : decode method_5_code 91 = .ok (.iload 4, 2) := by decide +kernel
theorem d5_93 : decode method_5_code 93 = .ok (.ireturn, 1) := by decide +kernel
theorem pn_5 : plainName "com/example/mendmark/mendmark/core/ScannerDeclarationEndPinLaw" = true := by first | (simp [plainName, overriddenIn]; done) | decide +kernel
theorem pd_0 : parseMethodDescriptor "([CIIIC)Z" = some ⟨[(.array .char), .int, .int, .int, .char], some .boolean⟩ := by decide +kernel
theorem ef_5 (m : MethodId) (a1 : Addr) (p2 : Int32) (p3 : Int32) (p4 : Int32) : entryFrame m #[(.ref a1), (.int p2), (.int p3), (.int p4)] 5 = mkF m 0 #[rv a1, iv p2, iv p3, iv p4, .unset] [] := by first | (simp [entryFrame, mkF, argsToLocals, Value.category]; done) | rfl
def f5 (p2 : Int32) (p3 : Int32) (p4 : Int32) (vs : List Int32) : Int32 := (if (f6 (2 : Int32) p2 p3 p4 vs) = (0 : Int32) then (if (f6 (3 : Int32) p2 p3 p4 vs) = (0 : Int32) then (if (f6 (4 : Int32) p2 p3 p4 vs) = (0 : Int32) then (if (f6 (5 : Int32) p2 p3 p4 vs) = (0 : Int32) then (if (f6 (6 : Int32) p2 p3 p4 vs) = (0 : Int32) then (if (f6 (7 : Int32) p2 p3 p4 vs) = (0 : Int32) then p3 else (7 : Int32)) else (6 : Int32)) else (5 : Int32)) else (4 : Int32)) else (3 : Int32)) else (2 : Int32))
set_option maxRecDepth 65536 in
set_option maxHeartbeats 40000000 in
theorem rm5 (l : Launch) (Z : State) (a0 : Array Value) (hw : ∀ d ∈ tables_1, d.before a0 Z = true) (ws : List Jvm.Cond) (a1 : Addr) (p2 : Int32) (p3 : Int32) (p4 : Int32) (ka : ClassId) (vs : List Int32) (h0 : Heap) (n0 : Nat) (Z0 : n0 ≤ h0.size) (V_a1 : Arv Z h0 a1 ka .char (8 : Int32) (vs.map Value.int) (.int (0 : Int32))) (hlim : p3.toInt ≤ 8) (hfr : 2 ≤ p2.toInt) :
    MetFree l (⟨"com/example/mendmark/mendmark/core/ScannerDeclarationEndPinLaw", "firstIndex", "([CIIC)I"⟩ : MethodName) (head1 (Jvm.Cond.code (⟨"com/example/mendmark/mendmark/core/ScannerDeclarationEndPinLaw", "firstIndex", "([CIIC)I"⟩ : MethodName) method_5_code 5 (some .int) :: ws) ({ frames := 1, cells := 0, slots := 0, locals := 16 } : Room)) (fun a U => a = #[(.ref a1), (.int p2), (.int p3), (.int p4)] ∧ Z.Warmed39 U.vm ∧ U.heap = h0) (fun _ _ _ _ _ => True) (fun _ U o U' => ∃ v L, o = .returned v ∧ QI (f5 p2 p3 p4 vs) h0 n0 v U'.heap L ∧ FrameEnd U o U' L ({ frames := 1, cells := 0, slots := 0, locals := 16 } : Room).cells ({ frames := 1, cells := 0, slots := 0, locals := 16 } : Room).slots) := by
  refine MetFree.of_bodySF (plainFor_of_name pn_5) hisR ?_
  intro p e s m args below meth c s₁ Bd hml0 hP hK
  obtain ⟨rfl, hZ, hh⟩ := hP
  have hx := Bd.exec
  have hby := Bd.bytes
  have hml : c.maxLocals = 5 := hml0
  have hown : s.vm.findClass "com/example/mendmark/mendmark/core/ScannerDeclarationEndPinLaw" = some m.cls := findClass_of_methodNamed Bd.named
  have hnm := (name_of_methodNamed Bd.named Bd.method).1
  have X0 : Stand p l e ({ frames := 1, cells := 0, slots := 0, locals := 16 } : Room) s m #[(.ref a1), (.int p2), (.int p3), (.int p4)] below meth c s₁ [] 0 0 := Stand.of_body Bd
  have e0 : s₁.heap = h0 := by rw [← hh, Bd.state]; rfl
  have N0 := Fr.nil n0
  obtain ⟨B, hB, pre0⟩ : ∃ B : State → Prop, (∀ t, B t → Steps p.tables e below (s₁.setTop (entryFrame m #[(.ref a1), (.int p2), (.int p3), (.int p4)] 5)) t) ∧ ∀ t, SS p e below m s₁ 0 #[rv a1, iv p2, iv p3, iv p4, .unset] [] t → B t := ⟨_, fun _ q => q, fun t kk => castTop (ef_5 m a1 p2 p3 p4) kk⟩
  have pre1 : ∀ t, SS p e below m s₁ 9 #[rv a1, iv p2, iv p3, iv p4, iv p3] [(.int p4), (.int p3), (.int p2), (.int (7 : Int32)), (.ref a1)] t → B t := fun t kk => pre0 t (by
    show SS p e below m s₁ 0 #[rv a1, iv p2, iv p3, iv p4, .unset] [] _
    refine XS.iloadN X0.here hx rfl (hb hby d5_0) rfl ?_
    show SS p e below m s₁ 1 #[rv a1, iv p2, iv p3, iv p4, .unset] [(.int p3)] _
    refine XS.istore X0.here hx rfl (hb hby d5_1) rfl (l' := #[rv a1, iv p2, iv p3, iv p4, iv p3]) rfl ?_
    show SS p e below m s₁ 3 #[rv a1, iv p2, iv p3, iv p4, iv p3] [] _
    refine XS.aloadN X0.here hx rfl (hb hby d5_3) rfl rfl ?_
    show SS p e below m s₁ 4 #[rv a1, iv p2, iv p3, iv p4, iv p3] [(.ref a1)] _
    refine XS.bipush X0.here hx rfl (hb hby d5_4) ?_
    show SS p e below m s₁ 6 #[rv a1, iv p2, iv p3, iv p4, iv p3] [(.int (7 : Int32)), (.ref a1)] _
    refine XS.iloadN X0.here hx rfl (hb hby d5_6) rfl ?_
    show SS p e below m s₁ 7 #[rv a1, iv p2, iv p3, iv p4, iv p3] [(.int p2), (.int (7 : Int32)), (.ref a1)] _
    refine XS.iloadN X0.here hx rfl (hb hby d5_7) rfl ?_
    show SS p e below m s₁ 8 #[rv a1, iv p2, iv p3, iv p4, iv p3] [(.int p3), (.int p2), (.int (7 : Int32)), (.ref a1)] _
    refine XS.iloadN X0.here hx rfl (hb hby d5_8) rfl ?_
    show SS p e below m s₁ 9 #[rv a1, iv p2, iv p3, iv p4, iv p3] [(.int p4), (.int p3), (.int p2), (.int (7 : Int32)), (.ref a1)] _
    exact kk)
  obtain ⟨_, _, ⟨T2, L2, k2, n2⟩, -, X2, ⟨Lc2, hQ2, l2, y2, z2⟩, st2⟩ := Jvm.LawKit.callS X0 hx (y := (⟨"com/example/mendmark/mendmark/core/ScannerDeclarationEndPinLaw", "hit", "([CIIIC)Z"⟩ : MethodName)) hown (mvT hZ (hw _ (List.mem_of_getElem? (i := 35) rfl))) (mvT hZ (hw _ (List.mem_of_getElem? (i := 36) rfl))) (mvT hZ (hw _ (List.mem_of_getElem? (i := 4) rfl))) (mvT hZ (hw _ (List.mem_of_getElem? (i := 37) rfl))) (by decide) (backOf (W := 0) (rm6 l Z a0 hw [] a1 (7 : Int32) p2 p3 p4 ka vs h0 n0 Z0 V_a1 hlim hfr) hZ (hw _ (List.mem_of_getElem? (i := 37) rfl)) (hw _ (List.mem_of_getElem? (i := 4) rfl)) (by decide) (by decide)) (g := (mkF m 9 #[rv a1, iv p2, iv p3, iv p4, iv p3] [(.int p4), (.int p3), (.int p2), (.int (7 : Int32)), (.ref a1)])) rfl (by rw [hml]; rfl) (argsL := [(.ref a1), (.int (7 : Int32)), (.int p2), (.int p3), (.int p4)]) (rest := []) (lenOf pd_0 rfl) rfl (by show 2 * 0 + _ ≤ _; exact Nat.le_of_eq rfl) (hb hby d5_9) (fun _ _ => ⟨rfl, e0, (by decide : 0 + 0 ≤ _), (by decide : 0 + 0 ≤ _)⟩)
  dsimp only [Pt.U, Pt.locs, Pt.cells, Pt.slots] at X2 l2 y2 z2 st2 hQ2
  subst l2 y2 z2
  obtain ⟨rfl, N2q, e2⟩ := hQ2
  have N2 := Fr.app N0 N2q
  have pre3 : ∀ t, SS p e below m T2 12 #[rv a1, iv p2, iv p3, iv p4, iv p3] [(.int (f6 (7 : Int32) p2 p3 p4 vs))] t → B t := fun t kk => pre1 t (by
    refine st2 _ ?_
    show SS p e below m T2 12 #[rv a1, iv p2, iv p3, iv p4, iv p3] [(.int (f6 (7 : Int32) p2 p3 p4 vs))] _
    exact kk)
  obtain ⟨r4, g_r4⟩ : ∃ z : Int32, z = if (f6 (7 : Int32) p2 p3 p4 vs) = (0 : Int32) then p3 else (7 : Int32) := ⟨_, rfl⟩
  have pre5 : ∀ t, SS p e below m T2 19 #[rv a1, iv p2, iv p3, iv p4, iv r4] [] t → B t := by
    intro t kk
    by_cases hc6 : (f6 (7 : Int32) p2 p3 p4 vs) = (0 : Int32)
    · rw [g_r4, if_pos hc6] at kk
      exact pre3 t (by
        refine XS.ifYes X2.here hx rfl (pc0 := 12) (pc' := 19) rfl (hb hby d5_12) rfl ((if0 _ _).trans (teq hc6).1) (by decide) (by decide) ?_
        show SS p e below m T2 19 #[rv a1, iv p2, iv p3, iv p4, iv p3] [] _
        exact kk)
    · rw [g_r4, if_neg hc6] at kk
      exact pre3 t (by
        refine XS.ifNo X2.here hx rfl (hb hby d5_12) rfl ((if0 _ _).trans (feq hc6).1) ?_
        show SS p e below m T2 15 #[rv a1, iv p2, iv p3, iv p4, iv p3] [] _
        refine XS.bipush X2.here hx rfl (hb hby d5_15) ?_
        show SS p e below m T2 17 #[rv a1, iv p2, iv p3, iv p4, iv p3] [(.int (7 : Int32))] _
        refine XS.istore X2.here hx rfl (hb hby d5_17) rfl (l' := #[rv a1, iv p2, iv p3, iv p4, iv (7 : Int32)]) rfl ?_
        show SS p e below m T2 19 #[rv a1, iv p2, iv p3, iv p4, iv (7 : Int32)] [] _
        exact kk)
  have pre7 : ∀ t, SS p e below m T2 25 #[rv a1, iv p2, iv p3, iv p4, iv r4] [(.int p4), (.int p3), (.int p2), (.int (6 : Int32)), (.ref a1)] t → B t := fun t kk => pre5 t (by
    refine XS.aloadN X2.here hx rfl (hb hby d5_19) rfl rfl ?_
    show SS p e below m T2 20 #[rv a1, iv p2, iv p3, iv p4, iv r4] [(.ref a1)] _
    refine XS.bipush X2.here hx rfl (hb hby d5_20) ?_
    show SS p e below m T2 22 #[rv a1, iv p2, iv p3, iv p4, iv r4] [(.int (6 : Int32)), (.ref a1)] _
    refine XS.iloadN X2.here hx rfl (hb hby d5_22) rfl ?_
    show SS p e below m T2 23 #[rv a1, iv p2, iv p3, iv p4, iv r4] [(.int p2), (.int (6 : Int32)), (.ref a1)] _
    refine XS.iloadN X2.here hx rfl (hb hby d5_23) rfl ?_
    show SS p e below m T2 24 #[rv a1, iv p2, iv p3, iv p4, iv r4] [(.int p3), (.int p2), (.int (6 : Int32)), (.ref a1)] _
    refine XS.iloadN X2.here hx rfl (hb hby d5_24) rfl ?_
    show SS p e below m T2 25 #[rv a1, iv p2, iv p3, iv p4, iv r4] [(.int p4), (.int p3), (.int p2), (.int (6 : Int32)), (.ref a1)] _
    exact kk)
  obtain ⟨_, _, ⟨T8, L8, k8, n8⟩, -, X8, ⟨Lc8, hQ8, l8, y8, z8⟩, st8⟩ := Jvm.LawKit.callS X2 hx (y := (⟨"com/example/mendmark/mendmark/core/ScannerDeclarationEndPinLaw", "hit", "([CIIIC)Z"⟩ : MethodName)) hown (mvT hZ (hw _ (List.mem_of_getElem? (i := 35) rfl))) (mvT hZ (hw _ (List.mem_of_getElem? (i := 36) rfl))) (mvT hZ (hw _ (List.mem_of_getElem? (i := 4) rfl))) (mvT hZ (hw _ (List.mem_of_getElem? (i := 37) rfl))) (by decide) (backOf (W := 0) (rm6 l Z a0 hw [] a1 (6 : Int32) p2 p3 p4 ka vs h0 n0 Z0 V_a1 hlim hfr) hZ (hw _ (List.mem_of_getElem? (i := 37) rfl)) (hw _ (List.mem_of_getElem? (i := 4) rfl)) (by decide) (by decide)) (g := (mkF m 25 #[rv a1, iv p2, iv p3, iv p4, iv r4] [(.int p4), (.int p3), (.int p2), (.int (6 : Int32)), (.ref a1)])) rfl (by rw [hml]; rfl) (argsL := [(.ref a1), (.int (6 : Int32)), (.int p2), (.int p3), (.int p4)]) (rest := []) (lenOf pd_0 rfl) rfl (by show 2 * 0 + _ ≤ _; exact Nat.le_of_eq rfl) (hb hby d5_25) (fun _ _ => ⟨rfl, e2, (by decide : 0 + 0 ≤ _), (by decide : 0 + 0 ≤ _)⟩)
  dsimp only [Pt.U, Pt.locs, Pt.cells, Pt.slots] at X8 l8 y8 z8 st8 hQ8
  subst l8 y8 z8
  obtain ⟨rfl, N8q, e8⟩ := hQ8
  have N8 := Fr.app N2 N8q
  have pre9 : ∀ t, SS p e below m T8 28 #[rv a1, iv p2, iv p3, iv p4, iv r4] [(.int (f6 (6 : Int32) p2 p3 p4 vs))] t → B t := fun t kk => pre7 t (by
    refine st8 _ ?_
    show SS p e below m T8 28 #[rv a1, iv p2, iv p3, iv p4, iv r4] [(.int (f6 (6 : Int32) p2 p3 p4 vs))] _
    exact kk)
  obtain ⟨r10, g_r10⟩ : ∃ z : Int32, z = if (f6 (6 : Int32) p2 p3 p4 vs) = (0 : Int32) then r4 else (6 : Int32) := ⟨_, rfl⟩
  have pre11 : ∀ t, SS p e below m T8 35 #[rv a1, iv p2, iv p3, iv p4, iv r10] [] t → B t := by
    intro t kk
    by_cases hc12 : (f6 (6 : Int32) p2 p3 p4 vs) = (0 : Int32)
    · rw [g_r10, if_pos hc12] at kk
      exact pre9 t (by
        refine XS.ifYes X8.here hx rfl (pc0 := 28) (pc' := 35) rfl (hb hby d5_28) rfl ((if0 _ _).trans (teq hc12).1) (by decide) (by decide) ?_
        show SS p e below m T8 35 #[rv a1, iv p2, iv p3, iv p4, iv r4] [] _
        exact kk)
    · rw [g_r10, if_neg hc12] at kk
      exact pre9 t (by
        refine XS.ifNo X8.here hx rfl (hb hby d5_28) rfl ((if0 _ _).trans (feq hc12).1) ?_
        show SS p e below m T8 31 #[rv a1, iv p2, iv p3, iv p4, iv r4] [] _
        refine XS.bipush X8.here hx rfl (hb hby d5_31) ?_
        show SS p e below m T8 33 #[rv a1, iv p2, iv p3, iv p4, iv r4] [(.int (6 : Int32))] _
        refine XS.istore X8.here hx rfl (hb hby d5_33) rfl (l' := #[rv a1, iv p2, iv p3, iv p4, iv (6 : Int32)]) rfl ?_
        show SS p e below m T8 35 #[rv a1, iv p2, iv p3, iv p4, iv (6 : Int32)] [] _
        exact kk)
  have pre13 : ∀ t, SS p e below m T8 40 #[rv a1, iv p2, iv p3, iv p4, iv r10] [(.int p4), (.int p3), (.int p2), (.int (5 : Int32)), (.ref a1)] t → B t := fun t kk => pre11 t (by
    refine XS.aloadN X8.here hx rfl (hb hby d5_35) rfl rfl ?_
    show SS p e below m T8 36 #[rv a1, iv p2, iv p3, iv p4, iv r10] [(.ref a1)] _
    refine XS.iconst X8.here hx rfl (hb hby d5_36) ?_
    show SS p e below m T8 37 #[rv a1, iv p2, iv p3, iv p4, iv r10] [(.int (5 : Int32)), (.ref a1)] _
    refine XS.iloadN X8.here hx rfl (hb hby d5_37) rfl ?_
    show SS p e below m T8 38 #[rv a1, iv p2, iv p3, iv p4, iv r10] [(.int p2), (.int (5 : Int32)), (.ref a1)] _
    refine XS.iloadN X8.here hx rfl (hb hby d5_38) rfl ?_
    show SS p e below m T8 39 #[rv a1, iv p2, iv p3, iv p4, iv r10] [(.int p3), (.int p2), (.int (5 : Int32)), (.ref a1)] _
    refine XS.iloadN X8.here hx rfl (hb hby d5_39) rfl ?_
    show SS p e below m T8 40 #[rv a1, iv p2, iv p3, iv p4, iv r10] [(.int p4), (.int p3), (.int p2), (.int (5 : Int32)), (.ref a1)] _
    exact kk)
  obtain ⟨_, _, ⟨T14, L14, k14, n14⟩, -, X14, ⟨Lc14, hQ14, l14, y14, z14⟩, st14⟩ := Jvm.LawKit.callS X8 hx (y := (⟨"com/example/mendmark/mendmark/core/ScannerDeclarationEndPinLaw", "hit", "([CIIIC)Z"⟩ : MethodName)) hown (mvT hZ (hw _ (List.mem_of_getElem? (i := 35) rfl))) (mvT hZ (hw _ (List.mem_of_getElem? (i := 36) rfl))) (mvT hZ (hw _ (List.mem_of_getElem? (i := 4) rfl))) (mvT hZ (hw _ (List.mem_of_getElem? (i := 37) rfl))) (by decide) (backOf (W := 0) (rm6 l Z a0 hw [] a1 (5 : Int32) p2 p3 p4 ka vs h0 n0 Z0 V_a1 hlim hfr) hZ (hw _ (List.mem_of_getElem? (i := 37) rfl)) (hw _ (List.mem_of_getElem? (i := 4) rfl)) (by decide) (by decide)) (g := (mkF m 40 #[rv a1, iv p2, iv p3, iv p4, iv r10] [(.int p4), (.int p3), (.int p2), (.int (5 : Int32)), (.ref a1)])) rfl (by rw [hml]; rfl) (argsL := [(.ref a1), (.int (5 : Int32)), (.int p2), (.int p3), (.int p4)]) (rest := []) (lenOf pd_0 rfl) rfl (by show 2 * 0 + _ ≤ _; exact Nat.le_of_eq rfl) (hb hby d5_40) (fun _ _ => ⟨rfl, e8, (by decide : 0 + 0 ≤ _), (by decide : 0 + 0 ≤ _)⟩)
  dsimp only [Pt.U, Pt.locs, Pt.cells, Pt.slots] at X14 l14 y14 z14 st14 hQ14
  subst l14 y14 z14
  obtain ⟨rfl, N14q, e14⟩ := hQ14
  have N14 := Fr.app N8 N14q
  have pre15 : ∀ t, SS p e below m T14 43 #[rv a1, iv p2, iv p3, iv p4, iv r10] [(.int (f6 (5 : Int32) p2 p3 p4 vs))] t → B t := fun t kk => pre13 t (by
    refine st14 _ ?_
    show SS p e below m T14 43 #[rv a1, iv p2, iv p3, iv p4, iv r10] [(.int (f6 (5 : Int32) p2 p3 p4 vs))] _
    exact kk)
  obtain ⟨r16, g_r16⟩ : ∃ z : Int32, z = if (f6 (5 : Int32) p2 p3 p4 vs) = (0 : Int32) then r10 else (5 : Int32) := ⟨_, rfl⟩
  have pre17 : ∀ t, SS p e below m T14 49 #[rv a1, iv p2, iv p3, iv p4, iv r16] [] t → B t := by
    intro t kk
    by_cases hc18 : (f6 (5 : Int32) p2 p3 p4 vs) = (0 : Int32)
    · rw [g_r16, if_pos hc18] at kk
      exact pre15 t (by
        refine XS.ifYes X14.here hx rfl (pc0 := 43) (pc' := 49) rfl (hb hby d5_43) rfl ((if0 _ _).trans (teq hc18).1) (by decide) (by decide) ?_
        show SS p e below m T14 49 #[rv a1, iv p2, iv p3, iv p4, iv r10] [] _
        exact kk)
    · rw [g_r16, if_neg hc18] at kk
      exact pre15 t (by
        refine XS.ifNo X14.here hx rfl (hb hby d5_43) rfl ((if0 _ _).trans (feq hc18).1) ?_
        show SS p e below m T14 46 #[rv a1, iv p2, iv p3, iv p4, iv r10] [] _
        refine XS.iconst X14.here hx rfl (hb hby d5_46) ?_
        show SS p e below m T14 47 #[rv a1, iv p2, iv p3, iv p4, iv r10] [(.int (5 : Int32))] _
        refine XS.istore X14.here hx rfl (hb hby d5_47) rfl (l' := #[rv a1, iv p2, iv p3, iv p4, iv (5 : Int32)]) rfl ?_
        show SS p e below m T14 49 #[rv a1, iv p2, iv p3, iv p4, iv (5 : Int32)] [] _
        exact kk)
  have pre19 : ∀ t, SS p e below m T14 54 #[rv a1, iv p2, iv p3, iv p4, iv r16] [(.int p4), (.int p3), (.int p2), (.int (4 : Int32)), (.ref a1)] t → B t := fun t kk => pre17 t (by
    refine XS.aloadN X14.here hx rfl (hb hby d5_49) rfl rfl ?_
    show SS p e below m T14 50 #[rv a1, iv p2, iv p3, iv p4, iv r16] [(.ref a1)] _
    refine XS.iconst X14.here hx rfl (hb hby d5_50) ?_
    show SS p e below m T14 51 #[rv a1, iv p2, iv p3, iv p4, iv r16] [(.int (4 : Int32)), (.ref a1)] _
    refine XS.iloadN X14.here hx rfl (hb hby d5_51) rfl ?_
    show SS p e below m T14 52 #[rv a1, iv p2, iv p3, iv p4, iv r16] [(.int p2), (.int (4 : Int32)), (.ref a1)] _
    refine XS.iloadN X14.here hx rfl (hb hby d5_52) rfl ?_
    show SS p e below m T14 53 #[rv a1, iv p2, iv p3, iv p4, iv r16] [(.int p3), (.int p2), (.int (4 : Int32)), (.ref a1)] _
    refine XS.iloadN X14.here hx rfl (hb hby d5_53) rfl ?_
    show SS p e below m T14 54 #[rv a1, iv p2, iv p3, iv p4, iv r16] [(.int p4), (.int p3), (.int p2), (.int (4 : Int32)), (.ref a1)] _
    exact kk)
  obtain ⟨_, _, ⟨T20, L20, k20, n20⟩, -, X20, ⟨Lc20, hQ20, l20, y20, z20⟩, st20⟩ := Jvm.LawKit.callS X14 hx (y := (⟨"com/example/mendmark/mendmark/core/ScannerDeclarationEndPinLaw", "hit", "([CIIIC)Z"⟩ : MethodName)) hown (mvT hZ (hw _ (List.mem_of_getElem? (i := 35) rfl))) (mvT hZ (hw _ (List.mem_of_getElem? (i := 36) rfl))) (mvT hZ (hw _ (List.mem_of_getElem? (i := 4) rfl))) (mvT hZ (hw _ (List.mem_of_getElem? (i := 37) rfl))) (by decide) (backOf (W := 0) (rm6 l Z a0 hw [] a1 (4 : Int32) p2 p3 p4 ka vs h0 n0 Z0 V_a1 hlim hfr) hZ (hw _ (List.mem_of_getElem? (i := 37) rfl)) (hw _ (List.mem_of_getElem? (i := 4) rfl)) (by decide) (by decide)) (g := (mkF m 54 #[rv a1, iv p2, iv p3, iv p4, iv r16] [(.int p4), (.int p3), (.int p2), (.int (4 : Int32)), (.ref a1)])) rfl (by rw [hml]; rfl) (argsL := [(.ref a1), (.int (4 : Int32)), (.int p2), (.int p3), (.int p4)]) (rest := []) (lenOf pd_0 rfl) rfl (by show 2 * 0 + _ ≤ _; exact Nat.le_of_eq rfl) (hb hby d5_54) (fun _ _ => ⟨rfl, e14, (by decide : 0 + 0 ≤ _), (by decide : 0 + 0 ≤ _)⟩)
  dsimp only [Pt.U, Pt.locs, Pt.cells, Pt.slots] at X20 l20 y20 z20 st20 hQ20
  subst l20 y20 z20
  obtain ⟨rfl, N20q, e20⟩ := hQ20
  have N20 := Fr.app N14 N20q
  have pre21 : ∀ t, SS p e below m T20 57 #[rv a1, iv p2, iv p3, iv p4, iv r16] [(.int (f6 (4 : Int32) p2 p3 p4 vs))] t → B t := fun t kk => pre19 t (by
    refine st20 _ ?_
    show SS p e below m T20 57 #[rv a1, iv p2, iv p3, iv p4, iv r16] [(.int (f6 (4 : Int32) p2 p3 p4 vs))] _
    exact kk)
  obtain ⟨r22, g_r22⟩ : ∃ z : Int32, z = if (f6 (4 : Int32) p2 p3 p4 vs) = (0 : Int32) then r16 else (4 : Int32) := ⟨_, rfl⟩
  have pre23 : ∀ t, SS p e below m T20 63 #[rv a1, iv p2, iv p3, iv p4, iv r22] [] t → B t := by
    intro t kk
    by_cases hc24 : (f6 (4 : Int32) p2 p3 p4 vs) = (0 : Int32)
    · rw [g_r22, if_pos hc24] at kk
      exact pre21 t (by
        refine XS.ifYes X20.here hx rfl (pc0 := 57) (pc' := 63) rfl (hb hby d5_57) rfl ((if0 _ _).trans (teq hc24).1) (by decide) (by decide) ?_
        show SS p e below m T20 63 #[rv a1, iv p2, iv p3, iv p4, iv r16] [] _
        exact kk)
    · rw [g_r22, if_neg hc24] at kk
      exact pre21 t (by
        refine XS.ifNo X20.here hx rfl (hb hby d5_57) rfl ((if0 _ _).trans (feq hc24).1) ?_
        show SS p e below m T20 60 #[rv a1, iv p2, iv p3, iv p4, iv r16] [] _
        refine XS.iconst X20.here hx rfl (hb hby d5_60) ?_
        show SS p e below m T20 61 #[rv a1, iv p2, iv p3, iv p4, iv r16] [(.int (4 : Int32))] _
        refine XS.istore X20.here hx rfl (hb hby d5_61) rfl (l' := #[rv a1, iv p2, iv p3, iv p4, iv (4 : Int32)]) rfl ?_
        show SS p e below m T20 63 #[rv a1, iv p2, iv p3, iv p4, iv (4 : Int32)] [] _
        exact kk)
  have pre25 : ∀ t, SS p e below m T20 68 #[rv a1, iv p2, iv p3, iv p4, iv r22] [(.int p4), (.int p3), (.int p2), (.int (3 : Int32)), (.ref a1)] t → B t := fun t kk => pre23 t (by
    refine XS.aloadN X20.here hx rfl (hb hby d5_63) rfl rfl ?_
    show SS p e below m T20 64 #[rv a1, iv p2, iv p3, iv p4, iv r22] [(.ref a1)] _
    refine XS.iconst X20.here hx rfl (hb hby d5_64) ?_
    show SS p e below m T20 65 #[rv a1, iv p2, iv p3, iv p4, iv r22] [(.int (3 : Int32)), (.ref a1)] _
    refine XS.iloadN X20.here hx rfl (hb hby d5_65) rfl ?_
    show SS p e below m T20 66 #[rv a1, iv p2, iv p3, iv p4, iv r22] [(.int p2), (.int (3 : Int32)), (.ref a1)] _
    refine XS.iloadN X20.here hx rfl (hb hby d5_66) rfl ?_
    show SS p e below m T20 67 #[rv a1, iv p2, iv p3, iv p4, iv r22] [(.int p3), (.int p2), (.int (3 : Int32)), (.ref a1)] _
    refine XS.iloadN X20.here hx rfl (hb hby d5_67) rfl ?_
    show SS p e below m T20 68 #[rv a1, iv p2, iv p3, iv p4, iv r22] [(.int p4), (.int p3), (.int p2), (.int (3 : Int32)), (.ref a1)] _
    exact kk)
  obtain ⟨_, _, ⟨T26, L26, k26, n26⟩, -, X26, ⟨Lc26, hQ26, l26, y26, z26⟩, st26⟩ := Jvm.LawKit.callS X20 hx (y := (⟨"com/example/mendmark/mendmark/core/ScannerDeclarationEndPinLaw", "hit", "([CIIIC)Z"⟩ : MethodName)) hown (mvT hZ (hw _ (List.mem_of_getElem? (i := 35) rfl))) (mvT hZ (hw _ (List.mem_of_getElem? (i := 36) rfl))) (mvT hZ (hw _ (List.mem_of_getElem? (i := 4) rfl))) (mvT hZ (hw _ (List.mem_of_getElem? (i := 37) rfl))) (by decide) (backOf (W := 0) (rm6 l Z a0 hw [] a1 (3 : Int32) p2 p3 p4 ka vs h0 n0 Z0 V_a1 hlim hfr) hZ (hw _ (List.mem_of_getElem? (i := 37) rfl)) (hw _ (List.mem_of_getElem? (i := 4) rfl)) (by decide) (by decide)) (g := (mkF m 68 #[rv a1, iv p2, iv p3, iv p4, iv r22] [(.int p4), (.int p3), (.int p2), (.int (3 : Int32)), (.ref a1)])) rfl (by rw [hml]; rfl) (argsL := [(.ref a1), (.int (3 : Int32)), (.int p2), (.int p3), (.int p4)]) (rest := []) (lenOf pd_0 rfl) rfl (by show 2 * 0 + _ ≤ _; exact Nat.le_of_eq rfl) (hb hby d5_68) (fun _ _ => ⟨rfl, e20, (by decide : 0 + 0 ≤ _), (by decide : 0 + 0 ≤ _)⟩)
  dsimp only [Pt.U, Pt.locs, Pt.cells, Pt.slots] at X26 l26 y26 z26 st26 hQ26
  subst l26 y26 z26
  obtain ⟨rfl, N26q, e26⟩ := hQ26
  have N26 := Fr.app N20 N26q
  have pre27 : ∀ t, SS p e below m T26 71 #[rv a1, iv p2, iv p3, iv p4, iv r22] [(.int (f6 (3 : Int32) p2 p3 p4 vs))] t → B t := fun t kk => pre25 t (by
    refine st26 _ ?_
    show SS p e below m T26 71 #[rv a1, iv p2, iv p3, iv p4, iv r22] [(.int (f6 (3 : Int32) p2 p3 p4 vs))] _
    exact kk)
  obtain ⟨r28, g_r28⟩ : ∃ z : Int32, z = if (f6 (3 : Int32) p2 p3 p4 vs) = (0 : Int32) then r22 else (3 : Int32) := ⟨_, rfl⟩
  have pre29 : ∀ t, SS p e below m T26 77 #[rv a1, iv p2, iv p3, iv p4, iv r28] [] t → B t := by
    intro t kk
    by_cases hc30 : (f6 (3 : Int32) p2 p3 p4 vs) = (0 : Int32)
    · rw [g_r28, if_pos hc30] at kk
      exact pre27 t (by
        refine XS.ifYes X26.here hx rfl (pc0 := 71) (pc' := 77) rfl (hb hby d5_71) rfl ((if0 _ _).trans (teq hc30).1) (by decide) (by decide) ?_
        show SS p e below m T26 77 #[rv a1, iv p2, iv p3, iv p4, iv r22] [] _
        exact kk)
    · rw [g_r28, if_neg hc30] at kk
      exact pre27 t (by
        refine XS.ifNo X26.here hx rfl (hb hby d5_71) rfl ((if0 _ _).trans (feq hc30).1) ?_
        show SS p e below m T26 74 #[rv a1, iv p2, iv p3, iv p4, iv r22] [] _
        refine XS.iconst X26.here hx rfl (hb hby d5_74) ?_
        show SS p e below m T26 75 #[rv a1, iv p2, iv p3, iv p4, iv r22] [(.int (3 : Int32))] _
        refine XS.istore X26.here hx rfl (hb hby d5_75) rfl (l' := #[rv a1, iv p2, iv p3, iv p4, iv (3 : Int32)]) rfl ?_
        show SS p e below m T26 77 #[rv a1, iv p2, iv p3, iv p4, iv (3 : Int32)] [] _
        exact kk)
  have pre31 : ∀ t, SS p e below m T26 82 #[rv a1, iv p2, iv p3, iv p4, iv r28] [(.int p4), (.int p3), (.int p2), (.int (2 : Int32)), (.ref a1)] t → B t := fun t kk => pre29 t (by
    refine XS.aloadN X26.here hx rfl (hb hby d5_77) rfl rfl ?_
    show SS p e below m T26 78 #[rv a1, iv p2, iv p3, iv p4, iv r28] [(.ref a1)] _
    refine XS.iconst X26.here hx rfl (hb hby d5_78) ?_
    show SS p e below m T26 79 #[rv a1, iv p2, iv p3, iv p4, iv r28] [(.int (2 : Int32)), (.ref a1)] _
    refine XS.iloadN X26.here hx rfl (hb hby d5_79) rfl ?_
    show SS p e below m T26 80 #[rv a1, iv p2, iv p3, iv p4, iv r28] [(.int p2), (.int (2 : Int32)), (.ref a1)] _
    refine XS.iloadN X26.here hx rfl (hb hby d5_80) rfl ?_
    show SS p e below m T26 81 #[rv a1, iv p2, iv p3, iv p4, iv r28] [(.int p3), (.int p2), (.int (2 : Int32)), (.ref a1)] _
    refine XS.iloadN X26.here hx rfl (hb hby d5_81) rfl ?_
    show SS p e below m T26 82 #[rv a1, iv p2, iv p3, iv p4, iv r28] [(.int p4), (.int p3), (.int p2), (.int (2 : Int32)), (.ref a1)] _
    exact kk)
  obtain ⟨_, _, ⟨T32, L32, k32, n32⟩, -, X32, ⟨Lc32, hQ32, l32, y32, z32⟩, st32⟩ := Jvm.LawKit.callS X26 hx (y := (⟨"com/example/mendmark/mendmark/core/ScannerDeclarationEndPinLaw", "hit", "([CIIIC)Z"⟩ : MethodName)) hown (mvT hZ (hw _ (List.mem_of_getElem? (i := 35) rfl))) (mvT hZ (hw _ (List.mem_of_getElem? (i := 36) rfl))) (mvT hZ (hw _ (List.mem_of_getElem? (i := 4) rfl))) (mvT hZ (hw _ (List.mem_of_getElem? (i := 37) rfl))) (by decide) (backOf (W := 0) (rm6 l Z a0 hw [] a1 (2 : Int32) p2 p3 p4 ka vs h0 n0 Z0 V_a1 hlim hfr) hZ (hw _ (List.mem_of_getElem? (i := 37) rfl)) (hw _ (List.mem_of_getElem? (i := 4) rfl)) (by decide) (by decide)) (g := (mkF m 82 #[rv a1, iv p2, iv p3, iv p4, iv r28] [(.int p4), (.int p3), (.int p2), (.int (2 : Int32)), (.ref a1)])) rfl (by rw [hml]; rfl) (argsL := [(.ref a1), (.int (2 : Int32)), (.int p2), (.int p3), (.int p4)]) (rest := []) (lenOf pd_0 rfl) rfl (by show 2 * 0 + _ ≤ _; exact Nat.le_of_eq rfl) (hb hby d5_82) (fun _ _ => ⟨rfl, e26, (by decide : 0 + 0 ≤ _), (by decide : 0 + 0 ≤ _)⟩)
  dsimp only [Pt.U, Pt.locs, Pt.cells, Pt.slots] at X32 l32 y32 z32 st32 hQ32
  subst l32 y32 z32
  obtain ⟨rfl, N32q, e32⟩ := hQ32
  have N32 := Fr.app N26 N32q
  have pre33 : ∀ t, SS p e below m T32 85 #[rv a1, iv p2, iv p3, iv p4, iv r28] [(.int (f6 (2 : Int32) p2 p3 p4 vs))] t → B t := fun t kk => pre31 t (by
    refine st32 _ ?_
    show SS p e below m T32 85 #[rv a1, iv p2, iv p3, iv p4, iv r28] [(.int (f6 (2 : Int32) p2 p3 p4 vs))] _
    exact kk)
  obtain ⟨r34, g_r34⟩ : ∃ z : Int32, z = if (f6 (2 : Int32) p2 p3 p4 vs) = (0 : Int32) then r28 else (2 : Int32) := ⟨_, rfl⟩
  have pre35 : ∀ t, SS p e below m T32 91 #[rv a1, iv p2, iv p3, iv p4, iv r34] [] t → B t := by
    intro t kk
    by_cases hc36 : (f6 (2 : Int32) p2 p3 p4 vs) = (0 : Int32)
    · rw [g_r34, if_pos hc36] at kk
      exact pre33 t (by
        refine XS.ifYes X32.here hx rfl (pc0 := 85) (pc' := 91) rfl (hb hby d5_85) rfl ((if0 _ _).trans (teq hc36).1) (by decide) (by decide) ?_
        show SS p e below m T32 91 #[rv a1, iv p2, iv p3, iv p4, iv r28] [] _
        exact kk)
    · rw [g_r34, if_neg hc36] at kk
      exact pre33 t (by
        refine XS.ifNo X32.here hx rfl (hb hby d5_85) rfl ((if0 _ _).trans (feq hc36).1) ?_
        show SS p e below m T32 88 #[rv a1, iv p2, iv p3, iv p4, iv r28] [] _
        refine XS.iconst X32.here hx rfl (hb hby d5_88) ?_
        show SS p e below m T32 89 #[rv a1, iv p2, iv p3, iv p4, iv r28] [(.int (2 : Int32))] _
        refine XS.istore X32.here hx rfl (hb hby d5_89) rfl (l' := #[rv a1, iv p2, iv p3, iv p4, iv (2 : Int32)]) rfl ?_
        show SS p e below m T32 91 #[rv a1, iv p2, iv p3, iv p4, iv (2 : Int32)] [] _
        exact kk)
  have pre37 : ∀ t, SS p e below m T32 93 #[rv a1, iv p2, iv p3, iv p4, iv r34] [(.int r34)] t → B t := fun t kk => pre35 t (by
    refine XS.iload X32.here hx rfl (hb hby d5_91) rfl ?_
    show SS p e below m T32 93 #[rv a1, iv p2, iv p3, iv p4, iv r34] [(.int r34)] _
    exact kk)
  obtain ⟨fs, hr, hrun, hended, hW, hsame⟩ := X32.leave (v := some (.int r34)) (fun h => by rw [Bd.returns] at h; cases h)
  refine ⟨_, _, hB _ (pre37 _ ?_), hrun, hended, _, _, rfl, ?_, ⟨_, rfl⟩, hW, hsame.mono (by decide) (by decide)⟩
  · exact retI X32 hx Bd.returns (hb hby d5_93) hr
  · subst g_r34 g_r28 g_r22 g_r16 g_r10 g_r4
    exact ⟨by show _ = some (Value.int (f5 p2 p3 p4 vs)); rw [f5], N32, e32⟩
theorem d7_0 : decode method_7_code 0 = .ok (.iconst (-1), 1) := by decide +kernel
theorem d7_1 : decode method_7_code 1 = .ok (.istore_n 3, 1) := by decide +kernel
theorem d7_2 : decode method_7_code 2 = .ok (.aload_n 0, 1) := by decide +kernel
theorem d7_3 : decode method_7_code 3 = .ok (.bipush 7, 2) := by decide +kernel
theorem d7_5 : decode method_7_code 5 = .ok (.iload_n 1, 1) := by decide +kernel
theorem d7_6 : decode method_7_code 6 = .ok (.iload_n 2, 1) := by decide +kernel
theorem d7_7 : decode method_7_code 7 = .ok (.invokestatic 39, 3) := by decide +kernel
theorem d7_10 : decode method_7_code 10 = .ok (.ifCond .eq 6, 3) := by decide +kernel
theorem d7_13 : decode method_7_code 13 = .ok (.bipush 7, 2) := by decide +kernel
theorem d7_15 : decode method_7_code 15 = .ok (.istore_n 3, 1) := by decide +kernel
theorem d7_16 : decode method_7_code 16 = .ok (.aload_n 0, 1) := by decide +kernel
theorem d7_17 : decode method_7_code 17 = .ok (.bipush 6, 2) := by decide +kernel
theorem d7_19 : decode method_7_code 19 = .ok (.iload_n 1, 1) := by decide +kernel
theorem d7_20 : decode method_7_code 20 = .ok (.iload_n 2, 1) := by decide +kernel
theorem d7_21 : decode method_7_code 21 = .ok (.invokestatic 39, 3) := by decide +kernel
theorem d7_24 : decode method_7_code 24 = .ok (.ifCond .eq 6, 3) := by decide +kernel
theorem d7_27 : decode method_7_code 27 = .ok (.bipush 6, 2) := by decide +kernel
theorem d7_29 : decode method_7_code 29 = .ok (.istore_n 3, 1) := by decide +kernel
theorem d7_30 : decode method_7_code 30 = .ok (.aload_n 0, 1) := by decide +kernel
theorem d7_31 : decode method_7_code 31 = .ok (.iconst 5, 1) := by decide +kernel
theorem d7_32 : decode method_7_code 32 = .ok (.iload_n 1, 1) := by decide +kernel
theorem d7_33 : decode method_7_code 33 = .ok (.iload_n 2, 1) := by decide +kernel
theorem d7_34 : decode method_7_code 34 = .ok (.invokestatic 39, 3) := by decide +kernel
theorem d7_37 : decode method_7_code 37 = .ok (.ifCond .eq 5, 3) := by decide +kernel
theorem d7_40 : decode method_7_code 40 = .ok (.iconst 5, 1) := by decide +kernel
theorem d7_41 : decode method_7_code 41 = .ok (.istore_n 3, 1) := by decide +kernel
theorem d7_42 : decode method_7_code 42 = .ok (.aload_n 0, 1) := by decide +kernel
theorem d7_43 : decode method_7_code 43 = .ok (.iconst 4, 1) := by decide +kernel
theorem d7_44 : decode method_7_code 44 = .ok (.iload_n 1, 1) := by decide +kernel
theorem d7_45 : decode method_7_code 45 = .ok (.iload_n 2, 1) := by decide +kernel
theorem d7_46 : decode method_7_code 46 = .ok (.invokestatic 39, 3) := by decide +kernel
theorem d7_49 : decode method_7_code 49 = .ok (.ifCond .eq 5, 3) := by decide +kernel
theorem d7_52 : decode method_7_code 52 = .ok (.iconst 4, 1) := by decide +kernel
theorem d7_53 : decode method_7_code 53 = .ok (.istore_n 3, 1) := by decide +kernel
theorem d7_54 : decode method_7_code 54 = .ok (.aload_n 0, 1) := by decide +kernel
theorem d7_55 : decode method_7_code 55 = .ok (.iconst 3, 1) := by decide +kernel
theorem d7_56 : decode method_7_code 56 = .ok (.iload_n 1, 1) := by decide +kernel
theorem d7_57 : decode method_7_code 57 = .ok (.iload_n 2, 1) := by decide +kernel
theorem d7_58 : decode method_7_code 58 = .ok (.invokestatic 39, 3) := by decide +kernel
theorem d7_61 : decode method_7_code 61 = .ok (.ifCond .eq 5, 3) := by decide +kernel
theorem d7_64 : decode method_7_code 64 = .ok (.iconst 3, 1) := by decide +kernel
theorem d7_65 : decode method_7_code 65 = .ok (.istore_n 3, 1) := by decide +kernel
theorem d7_66 : decode method_7_code 66 = .ok (.aload_n 0, 1) := by decide +kernel
theorem d7_67 : decode method_7_code 67 = .ok (.iconst 2, 1) := by decide +kernel
theorem d7_68 : decode method_7_code 68 = .ok (.iload_n 1, 1) := by decide +kernel
theorem d7_69 : decode method_7_code 69 = .ok (.iload_n 2, 1) := by decide +kernel
theorem d7_70 : decode method_7_code 70 = .ok (.invokestatic 39, 3) := by decide +kernel
theorem d7_73 : decode method_7_code 73 = .ok (.ifCond .eq 5, 3) := by decide +kernel
theorem d7_76 : decode method_7_code 76 = .ok (.iconst 2, 1) := by decide +kernel
theorem d7_77 : decode method_7_code 77 = .ok (.istore_n 3, 1) := by decide +kernel
theorem d7_78 : decode method_7_code 78 = .ok (.iload_n 3, 1) := by decide +kernel
theorem d7_79 : decode method_7_code 79 = .ok (.ireturn, 1) := by decide +kernel
theorem pn_7 : plainName "com/example/mendmark/mendmark/core/ScannerDeclarationEndPinLaw" = true := by first | (simp [plainName, overriddenIn]; done) | decide +kernel
theorem pd_1 : parseMethodDescriptor "([CIII)Z" = some ⟨[(.array .char), .int, .int, .int], some .boolean⟩ := by decide +kernel
theorem ef_7 (m : MethodId) (a1 : Addr) (p2 : Int32) (p3 : Int32) : entryFrame m #[(.ref a1), (.int p2), (.int p3)] 4 = mkF m 0 #[rv a1, iv p2, iv p3, .unset] [] := by first | (simp [entryFrame, mkF, argsToLocals, Value.category]; done) | rfl
def f7 (p2 : Int32) (p3 : Int32) (vs : List Int32) : Int32 := (if (f8 (2 : Int32) p2 p3 vs) = (0 : Int32) then (if (f8 (3 : Int32) p2 p3 vs) = (0 : Int32) then (if (f8 (4 : Int32) p2 p3 vs) = (0 : Int32) then (if (f8 (5 : Int32) p2 p3 vs) = (0 : Int32) then (if (f8 (6 : Int32) p2 p3 vs) = (0 : Int32) then (if (f8 (7 : Int32) p2 p3 vs) = (0 : Int32) then (-1 : Int32) else (7 : Int32)) else (6 : Int32)) else (5 : Int32)) else (4 : Int32)) else (3 : Int32)) else (2 : Int32))
set_option maxRecDepth 65536 in
set_option maxHeartbeats 40000000 in
theorem rm7 (l : Launch) (Z : State) (a0 : Array Value) (hw : ∀ d ∈ tables_1, d.before a0 Z = true) (ws : List Jvm.Cond) (a1 : Addr) (p2 : Int32) (p3 : Int32) (ka : ClassId) (vs : List Int32) (h0 : Heap) (n0 : Nat) (Z0 : n0 ≤ h0.size) (V_a1 : Arv Z h0 a1 ka .char (8 : Int32) (vs.map Value.int) (.int (0 : Int32))) (hlim : p3.toInt ≤ 8) (hfr : 2 ≤ p2.toInt) :
    MetFree l (⟨"com/example/mendmark/mendmark/core/ScannerDeclarationEndPinLaw", "firstClose", "([CII)I"⟩ : MethodName) (head1 (Jvm.Cond.code (⟨"com/example/mendmark/mendmark/core/ScannerDeclarationEndPinLaw", "firstClose", "([CII)I"⟩ : MethodName) method_7_code 4 (some .int) :: ws) ({ frames := 1, cells := 0, slots := 0, locals := 15 } : Room)) (fun a U => a = #[(.ref a1), (.int p2), (.int p3)] ∧ Z.Warmed39 U.vm ∧ U.heap = h0) (fun _ _ _ _ _ => True) (fun _ U o U' => ∃ v L, o = .returned v ∧ QI (f7 p2 p3 vs) h0 n0 v U'.heap L ∧ FrameEnd U o U' L ({ frames := 1, cells := 0, slots := 0, locals := 15 } : Room).cells ({ frames := 1, cells := 0, slots := 0, locals := 15 } : Room).slots) := by
  refine MetFree.of_bodySF (plainFor_of_name pn_7) hisR ?_
  intro p e s m args below meth c s₁ Bd hml0 hP hK
  obtain ⟨rfl, hZ, hh⟩ := hP
  have hx := Bd.exec
  have hby := Bd.bytes
  have hml : c.maxLocals = 4 := hml0
  have hown : s.vm.findClass "com/example/mendmark/mendmark/core/ScannerDeclarationEndPinLaw" = some m.cls := findClass_of_methodNamed Bd.named
  have hnm := (name_of_methodNamed Bd.named Bd.method).1
  have X0 : Stand p l e ({ frames := 1, cells := 0, slots := 0, locals := 15 } : Room) s m #[(.ref a1), (.int p2), (.int p3)] below meth c s₁ [] 0 0 := Stand.of_body Bd
  have e0 : s₁.heap = h0 := by rw [← hh, Bd.state]; rfl
  have N0 := Fr.nil n0
  obtain ⟨B, hB, pre0⟩ : ∃ B : State → Prop, (∀ t, B t → Steps p.tables e below (s₁.setTop (entryFrame m #[(.ref a1), (.int p2), (.int p3)] 4)) t) ∧ ∀ t, SS p e below m s₁ 0 #[rv a1, iv p2, iv p3, .unset] [] t → B t := ⟨_, fun _ q => q, fun t kk => castTop (ef_7 m a1 p2 p3) kk⟩
  have pre1 : ∀ t, SS p e below m s₁ 7 #[rv a1, iv p2, iv p3, iv (-1 : Int32)] [(.int p3), (.int p2), (.int (7 : Int32)), (.ref a1)] t → B t := fun t kk => pre0 t (by
    show SS p e below m s₁ 0 #[rv a1, iv p2, iv p3, .unset] [] _
    refine XS.iconst X0.here hx rfl (hb hby d7_0) ?_
    show SS p e below m s₁ 1 #[rv a1, iv p2, iv p3, .unset] [(.int (-1 : Int32))] _
    refine XS.istoreN X0.here hx rfl (hb hby d7_1) rfl (l' := #[rv a1, iv p2, iv p3, iv (-1 : Int32)]) rfl ?_
    show SS p e below m s₁ 2 #[rv a1, iv p2, iv p3, iv (-1 : Int32)] [] _
    refine XS.aloadN X0.here hx rfl (hb hby d7_2) rfl rfl ?_
    show SS p e below m s₁ 3 #[rv a1, iv p2, iv p3, iv (-1 : Int32)] [(.ref a1)] _
    refine XS.bipush X0.here hx rfl (hb hby d7_3) ?_
    show SS p e below m s₁ 5 #[rv a1, iv p2, iv p3, iv (-1 : Int32)] [(.int (7 : Int32)), (.ref a1)] _
    refine XS.iloadN X0.here hx rfl (hb hby d7_5) rfl ?_
    show SS p e below m s₁ 6 #[rv a1, iv p2, iv p3, iv (-1 : Int32)] [(.int p2), (.int (7 : Int32)), (.ref a1)] _
    refine XS.iloadN X0.here hx rfl (hb hby d7_6) rfl ?_
    show SS p e below m s₁ 7 #[rv a1, iv p2, iv p3, iv (-1 : Int32)] [(.int p3), (.int p2), (.int (7 : Int32)), (.ref a1)] _
    exact kk)
  obtain ⟨_, _, ⟨T2, L2, k2, n2⟩, -, X2, ⟨Lc2, hQ2, l2, y2, z2⟩, st2⟩ := Jvm.LawKit.callS X0 hx (y := (⟨"com/example/mendmark/mendmark/core/ScannerDeclarationEndPinLaw", "closeAt", "([CIII)Z"⟩ : MethodName)) hown (mvT hZ (hw _ (List.mem_of_getElem? (i := 41) rfl))) (mvT hZ (hw _ (List.mem_of_getElem? (i := 42) rfl))) (mvT hZ (hw _ (List.mem_of_getElem? (i := 4) rfl))) (mvT hZ (hw _ (List.mem_of_getElem? (i := 43) rfl))) (by decide) (backOf (W := 0) (rm8 l Z a0 hw [] a1 (7 : Int32) p2 p3 ka vs h0 n0 Z0 V_a1 hlim hfr) hZ (hw _ (List.mem_of_getElem? (i := 43) rfl)) (hw _ (List.mem_of_getElem? (i := 4) rfl)) (by decide) (by decide)) (g := (mkF m 7 #[rv a1, iv p2, iv p3, iv (-1 : Int32)] [(.int p3), (.int p2), (.int (7 : Int32)), (.ref a1)])) rfl (by rw [hml]; rfl) (argsL := [(.ref a1), (.int (7 : Int32)), (.int p2), (.int p3)]) (rest := []) (lenOf pd_1 rfl) rfl (by show 2 * 0 + _ ≤ _; exact Nat.le_of_eq rfl) (hb hby d7_7) (fun _ _ => ⟨rfl, e0, (by decide : 0 + 0 ≤ _), (by decide : 0 + 0 ≤ _)⟩)
  dsimp only [Pt.U, Pt.locs, Pt.cells, Pt.slots] at X2 l2 y2 z2 st2 hQ2
  subst l2 y2 z2
  obtain ⟨rfl, N2q, e2⟩ := hQ2
  have N2 := Fr.app N0 N2q
  have pre3 : ∀ t, SS p e below m T2 10 #[rv a1, iv p2, iv p3, iv (-1 : Int32)] [(.int (f8 (7 : Int32) p2 p3 vs))] t → B t := fun t kk => pre1 t (by
    refine st2 _ ?_
    show SS p e below m T2 10 #[rv a1, iv p2, iv p3, iv (-1 : Int32)] [(.int (f8 (7 : Int32) p2 p3 vs))] _
    exact kk)
  obtain ⟨r4, g_r4⟩ : ∃ z : Int32, z = if (f8 (7 : Int32) p2 p3 vs) = (0 : Int32) then (-1 : Int32) else (7 : Int32) := ⟨_, rfl⟩
  have pre5 : ∀ t, SS p e below m T2 16 #[rv a1, iv p2, iv p3, iv r4] [] t → B t := by
    intro t kk
    by_cases hc6 : (f8 (7 : Int32) p2 p3 vs) = (0 : Int32)
    · rw [g_r4, if_pos hc6] at kk
      exact pre3 t (by
        refine XS.ifYes X2.here hx rfl (pc0 := 10) (pc' := 16) rfl (hb hby d7_10) rfl ((if0 _ _).trans (teq hc6).1) (by decide) (by decide) ?_
        show SS p e below m T2 16 #[rv a1, iv p2, iv p3, iv (-1 : Int32)] [] _
        exact kk)
    · rw [g_r4, if_neg hc6] at kk
      exact pre3 t (by
        refine XS.ifNo X2.here hx rfl (hb hby d7_10) rfl ((if0 _ _).trans (feq hc6).1) ?_
        show SS p e below m T2 13 #[rv a1, iv p2, iv p3, iv (-1 : Int32)] [] _
        refine XS.bipush X2.here hx rfl (hb hby d7_13) ?_
        show SS p e below m T2 15 #[rv a1, iv p2, iv p3, iv (-1 : Int32)] [(.int (7 : Int32))] _
        refine XS.istoreN X2.here hx rfl (hb hby d7_15) rfl (l' := #[rv a1, iv p2, iv p3, iv (7 : Int32)]) rfl ?_
        show SS p e below m T2 16 #[rv a1, iv p2, iv p3, iv (7 : Int32)] [] _
        exact kk)
  have pre7 : ∀ t, SS p e below m T2 21 #[rv a1, iv p2, iv p3, iv r4] [(.int p3), (.int p2), (.int (6 : Int32)), (.ref a1)] t → B t := fun t kk => pre5 t (by
    refine XS.aloadN X2.here hx rfl (hb hby d7_16) rfl rfl ?_
    show SS p e below m T2 17 #[rv a1, iv p2, iv p3, iv r4] [(.ref a1)] _
    refine XS.bipush X2.here hx rfl (hb hby d7_17) ?_
    show SS p e below m T2 19 #[rv a1, iv p2, iv p3, iv r4] [(.int (6 : Int32)), (.ref a1)] _
    refine XS.iloadN X2.here hx rfl (hb hby d7_19) rfl ?_
    show SS p e below m T2 20 #[rv a1, iv p2, iv p3, iv r4] [(.int p2), (.int (6 : Int32)), (.ref a1)] _
    refine XS.iloadN X2.here hx rfl (hb hby d7_20) rfl ?_
    show SS p e below m T2 21 #[rv a1, iv p2, iv p3, iv r4] [(.int p3), (.int p2), (.int (6 : Int32)), (.ref a1)] _
    exact kk)
  obtain ⟨_, _, ⟨T8, L8, k8, n8⟩, -, X8, ⟨Lc8, hQ8, l8, y8, z8⟩, st8⟩ := Jvm.LawKit.callS X2 hx (y := (⟨"com/example/mendmark/mendmark/core/ScannerDeclarationEndPinLaw", "closeAt", "([CIII)Z"⟩ : MethodName)) hown (mvT hZ (hw _ (List.mem_of_getElem? (i := 41) rfl))) (mvT hZ (hw _ (List.mem_of_getElem? (i := 42) rfl))) (mvT hZ (hw _ (List.mem_of_getElem? (i := 4) rfl))) (mvT hZ (hw _ (List.mem_of_getElem? (i := 43) rfl))) (by decide) (backOf (W := 0) (rm8 l Z a0 hw [] a1 (6 : Int32) p2 p3 ka vs h0 n0 Z0 V_a1 hlim hfr) hZ (hw _ (List.mem_of_getElem? (i := 43) rfl)) (hw _ (List.mem_of_getElem? (i := 4) rfl)) (by decide) (by decide)) (g := (mkF m 21 #[rv a1, iv p2, iv p3, iv r4] [(.int p3), (.int p2), (.int (6 : Int32)), (.ref a1)])) rfl (by rw [hml]; rfl) (argsL := [(.ref a1), (.int (6 : Int32)), (.int p2), (.int p3)]) (rest := []) (lenOf pd_1 rfl) rfl (by show 2 * 0 + _ ≤ _; exact Nat.le_of_eq rfl) (hb hby d7_21) (fun _ _ => ⟨rfl, e2, (by decide : 0 + 0 ≤ _), (by decide : 0 + 0 ≤ _)⟩)
  dsimp only [Pt.U, Pt.locs, Pt.cells, Pt.slots] at X8 l8 y8 z8 st8 hQ8
  subst l8 y8 z8
  obtain ⟨rfl, N8q, e8⟩ := hQ8
  have N8 := Fr.app N2 N8q
  have pre9 : ∀ t, SS p e below m T8 24 #[rv a1, iv p2, iv p3, iv r4] [(.int (f8 (6 : Int32) p2 p3 vs))] t → B t := fun t kk => pre7 t (by
    refine st8 _ ?_
    show SS p e below m T8 24 #[rv a1, iv p2, iv p3, iv r4] [(.int (f8 (6 : Int32) p2 p3 vs))] _
    exact kk)
  obtain ⟨r10, g_r10⟩ : ∃ z : Int32, z = if (f8 (6 : Int32) p2 p3 vs) = (0 : Int32) then r4 else (6 : Int32) := ⟨_, rfl⟩
  have pre11 : ∀ t, SS p e below m T8 30 #[rv a1, iv p2, iv p3, iv r10] [] t → B t := by
    intro t kk
    by_cases hc12 : (f8 (6 : Int32) p2 p3 vs) = (0 : Int32)
    · rw [g_r10, if_pos hc12] at kk
      exact pre9 t (by
        refine XS.ifYes X8.here hx rfl (pc0 := 24) (pc' := 30) rfl (hb hby d7_24) rfl ((if0 _ _).trans (teq hc12).1) (by decide) (by decide) ?_
        show SS p e below m T8 30 #[rv a1, iv p2, iv p3, iv r4] [] _
        exact kk)
    · rw [g_r10, if_neg hc12] at kk
      exact pre9 t (by
        refine XS.ifNo X8.here hx rfl (hb hby d7_24) rfl ((if0 _ _).trans (feq hc12).1) ?_
        show SS p e below m T8 27 #[rv a1, iv p2, iv p3, iv r4] [] _
        refine XS.bipush X8.here hx rfl (hb hby d7_27) ?_
        show SS p e below m T8 29 #[rv a1, iv p2, iv p3, iv r4] [(.int (6 : Int32))] _
        refine XS.istoreN X8.here hx rfl (hb hby d7_29) rfl (l' := #[rv a1, iv p2, iv p3, iv (6 : Int32)]) rfl ?_
        show SS p e below m T8 30 #[rv a1, iv p2, iv p3, iv (6 : Int32)] [] _
        exact kk)
  have pre13 : ∀ t, SS p e below m T8 34 #[rv a1, iv p2, iv p3, iv r10] [(.int p3), (.int p2), (.int (5 : Int32)), (.ref a1)] t → B t := fun t kk => pre11 t (by
    refine XS.aloadN X8.here hx rfl (hb hby d7_30) rfl rfl ?_
    show SS p e below m T8 31 #[rv a1, iv p2, iv p3, iv r10] [(.ref a1)] _
    refine XS.iconst X8.here hx rfl (hb hby d7_31) ?_
    show SS p e below m T8 32 #[rv a1, iv p2, iv p3, iv r10] [(.int (5 : Int32)), (.ref a1)] _
    refine XS.iloadN X8.here hx rfl (hb hby d7_32) rfl ?_
    show SS p e below m T8 33 #[rv a1, iv p2, iv p3, iv r10] [(.int p2), (.int (5 : Int32)), (.ref a1)] _
    refine XS.iloadN X8.here hx rfl (hb hby d7_33) rfl ?_
    show SS p e below m T8 34 #[rv a1, iv p2, iv p3, iv r10] [(.int p3), (.int p2), (.int (5 : Int32)), (.ref a1)] _
    exact kk)
  obtain ⟨_, _, ⟨T14, L14, k14, n14⟩, -, X14, ⟨Lc14, hQ14, l14, y14, z14⟩, st14⟩ := Jvm.LawKit.callS X8 hx (y := (⟨"com/example/mendmark/mendmark/core/ScannerDeclarationEndPinLaw", "closeAt", "([CIII)Z"⟩ : MethodName)) hown (mvT hZ (hw _ (List.mem_of_getElem? (i := 41) rfl))) (mvT hZ (hw _ (List.mem_of_getElem? (i := 42) rfl))) (mvT hZ (hw _ (List.mem_of_getElem? (i := 4) rfl))) (mvT hZ (hw _ (List.mem_of_getElem? (i := 43) rfl))) (by decide) (backOf (W := 0) (rm8 l Z a0 hw [] a1 (5 : Int32) p2 p3 ka vs h0 n0 Z0 V_a1 hlim hfr) hZ (hw _ (List.mem_of_getElem? (i := 43) rfl)) (hw _ (List.mem_of_getElem? (i := 4) rfl)) (by decide) (by decide)) (g := (mkF m 34 #[rv a1, iv p2, iv p3, iv r10] [(.int p3), (.int p2), (.int (5 : Int32)), (.ref a1)])) rfl (by rw [hml]; rfl) (argsL := [(.ref a1), (.int (5 : Int32)), (.int p2), (.int p3)]) (rest := []) (lenOf pd_1 rfl) rfl (by show 2 * 0 + _ ≤ _; exact Nat.le_of_eq rfl) (hb hby d7_34) (fun _ _ => ⟨rfl, e8, (by decide : 0 + 0 ≤ _), (by decide : 0 + 0 ≤ _)⟩)
  dsimp only [Pt.U, Pt.locs, Pt.cells, Pt.slots] at X14 l14 y14 z14 st14 hQ14
  subst l14 y14 z14
  obtain ⟨rfl, N14q, e14⟩ := hQ14
  have N14 := Fr.app N8 N14q
  have pre15 : ∀ t, SS p e below m T14 37 #[rv a1, iv p2, iv p3, iv r10] [(.int (f8 (5 : Int32) p2 p3 vs))] t → B t := fun t kk => pre13 t (by
    refine st14 _ ?_
    show SS p e below m T14 37 #[rv a1, iv p2, iv p3, iv r10] [(.int (f8 (5 : Int32) p2 p3 vs))] _
    exact kk)
  obtain ⟨r16, g_r16⟩ : ∃ z : Int32, z = if (f8 (5 : Int32) p2 p3 vs) = (0 : Int32) then r10 else (5 : Int32) := ⟨_, rfl⟩
  have pre17 : ∀ t, SS p e below m T14 42 #[rv a1, iv p2, iv p3, iv r16] [] t → B t := by
    intro t kk
    by_cases hc18 : (f8 (5 : Int32) p2 p3 vs) = (0 : Int32)
    · rw [g_r16, if_pos hc18] at kk
      exact pre15 t (by
        refine XS.ifYes X14.here hx rfl (pc0 := 37) (pc' := 42) rfl (hb hby d7_37) rfl ((if0 _ _).trans (teq hc18).1) (by decide) (by decide) ?_
        show SS p e below m T14 42 #[rv a1, iv p2, iv p3, iv r10] [] _
        exact kk)
    · rw [g_r16, if_neg hc18] at kk
      exact pre15 t (by
        refine XS.ifNo X14.here hx rfl (hb hby d7_37) rfl ((if0 _ _).trans (feq hc18).1) ?_
        show SS p e below m T14 40 #[rv a1, iv p2, iv p3, iv r10] [] _
        refine XS.iconst X14.here hx rfl (hb hby d7_40) ?_
        show SS p e below m T14 41 #[rv a1, iv p2, iv p3, iv r10] [(.int (5 : Int32))] _
        refine XS.istoreN X14.here hx rfl (hb hby d7_41) rfl (l' := #[rv a1, iv p2, iv p3, iv (5 : Int32)]) rfl ?_
        show SS p e below m T14 42 #[rv a1, iv p2, iv p3, iv (5 : Int32)] [] _
        exact kk)
  have pre19 : ∀ t, SS p e below m T14 46 #[rv a1, iv p2, iv p3, iv r16] [(.int p3), (.int p2), (.int (4 : Int32)), (.ref a1)] t → B t := fun t kk => pre17 t (by
    refine XS.aloadN X14.here hx rfl (hb hby d7_42) rfl rfl ?_
    show SS p e below m T14 43 #[rv a1, iv p2, iv p3, iv r16] [(.ref a1)] _
    refine XS.iconst X14.here hx rfl (hb hby d7_43) ?_
    show SS p e below m T14 44 #[rv a1, iv p2, iv p3, iv r16] [(.int (4 : Int32)), (.ref a1)] _
    refine XS.iloadN X14.here hx rfl (hb hby d7_44) rfl ?_
    show SS p e below m T14 45 #[rv a1, iv p2, iv p3, iv r16] [(.int p2), (.int (4 : Int32)), (.ref a1)] _
    refine XS.iloadN X14.here hx rfl (hb hby d7_45) rfl ?_
    show SS p e below m T14 46 #[rv a1, iv p2, iv p3, iv r16] [(.int p3), (.int p2), (.int (4 : Int32)), (.ref a1)] _
    exact kk)
  obtain ⟨_, _, ⟨T20, L20, k20, n20⟩, -, X20, ⟨Lc20, hQ20, l20, y20, z20⟩, st20⟩ := Jvm.LawKit.callS X14 hx (y := (⟨"com/example/mendmark/mendmark/core/ScannerDeclarationEndPinLaw", "closeAt", "([CIII)Z"⟩ : MethodName)) hown (mvT hZ (hw _ (List.mem_of_getElem? (i := 41) rfl))) (mvT hZ (hw _ (List.mem_of_getElem? (i := 42) rfl))) (mvT hZ (hw _ (List.mem_of_getElem? (i := 4) rfl))) (mvT hZ (hw _ (List.mem_of_getElem? (i := 43) rfl))) (by decide) (backOf (W := 0) (rm8 l Z a0 hw [] a1 (4 : Int32) p2 p3 ka vs h0 n0 Z0 V_a1 hlim hfr) hZ (hw _ (List.mem_of_getElem? (i := 43) rfl)) (hw _ (List.mem_of_getElem? (i := 4) rfl)) (by decide) (by decide)) (g := (mkF m 46 #[rv a1, iv p2, iv p3, iv r16] [(.int p3), (.int p2), (.int (4 : Int32)), (.ref a1)])) rfl (by rw [hml]; rfl) (argsL := [(.ref a1), (.int (4 : Int32)), (.int p2), (.int p3)]) (rest := []) (lenOf pd_1 rfl) rfl (by show 2 * 0 + _ ≤ _; exact Nat.le_of_eq rfl) (hb hby d7_46) (fun _ _ => ⟨rfl, e14, (by decide : 0 + 0 ≤ _), (by decide : 0 + 0 ≤ _)⟩)
  dsimp only [Pt.U, Pt.locs, Pt.cells, Pt.slots] at X20 l20 y20 z20 st20 hQ20
  subst l20 y20 z20
  obtain ⟨rfl, N20q, e20⟩ := hQ20
  have N20 := Fr.app N14 N20q
  have pre21 : ∀ t, SS p e below m T20 49 #[rv a1, iv p2, iv p3, iv r16] [(.int (f8 (4 : Int32) p2 p3 vs))] t → B t := fun t kk => pre19 t (by
    refine st20 _ ?_
    show SS p e below m T20 49 #[rv a1, iv p2, iv p3, iv r16] [(.int (f8 (4 : Int32) p2 p3 vs))] _
    exact kk)
  obtain ⟨r22, g_r22⟩ : ∃ z : Int32, z = if (f8 (4 : Int32) p2 p3 vs) = (0 : Int32) then r16 else (4 : Int32) := ⟨_, rfl⟩
  have pre23 : ∀ t, SS p e below m T20 54 #[rv a1, iv p2, iv p3, iv r22] [] t → B t := by
    intro t kk
    by_cases hc24 : (f8 (4 : Int32) p2 p3 vs) = (0 : Int32)
    · rw [g_r22, if_pos hc24] at kk
      exact pre21 t (by
        refine XS.ifYes X20.here hx rfl (pc0 := 49) (pc' := 54) rfl (hb hby d7_49) rfl ((if0 _ _).trans (teq hc24).1) (by decide) (by decide) ?_
        show SS p e below m T20 54 #[rv a1, iv p2, iv p3, iv r16] [] _
        exact kk)
    · rw [g_r22, if_neg hc24] at kk
      exact pre21 t (by
        refine XS.ifNo X20.here hx rfl (hb hby d7_49) rfl ((if0 _ _).trans (feq hc24).1) ?_
        show SS p e below m T20 52 #[rv a1, iv p2, iv p3, iv r16] [] _
        refine XS.iconst X20.here hx rfl (hb hby d7_52) ?_
        show SS p e below m T20 53 #[rv a1, iv p2, iv p3, iv r16] [(.int (4 : Int32))] _
        refine XS.istoreN X20.here hx rfl (hb hby d7_53) rfl (l' := #[rv a1, iv p2, iv p3, iv (4 : Int32)]) rfl ?_
        show SS p e below m T20 54 #[rv a1, iv p2, iv p3, iv (4 : Int32)] [] _
        exact kk)
  have pre25 : ∀ t, SS p e below m T20 58 #[rv a1, iv p2, iv p3, iv r22] [(.int p3), (.int p2), (.int (3 : Int32)), (.ref a1)] t → B t := fun t kk => pre23 t (by
    refine XS.aloadN X20.here hx rfl (hb hby d7_54) rfl rfl ?_
    show SS p e below m T20 55 #[rv a1, iv p2, iv p3, iv r22] [(.ref a1)] _
    refine XS.iconst X20.here hx rfl (hb hby d7_55) ?_
    show SS p e below m T20 56 #[rv a1, iv p2, iv p3, iv r22] [(.int (3 : Int32)), (.ref a1)] _
    refine XS.iloadN X20.here hx rfl (hb hby d7_56) rfl ?_
    show SS p e below m T20 57 #[rv a1, iv p2, iv p3, iv r22] [(.int p2), (.int (3 : Int32)), (.ref a1)] _
    refine XS.iloadN X20.here hx rfl (hb hby d7_57) rfl ?_
    show SS p e below m T20 58 #[rv a1, iv p2, iv p3, iv r22] [(.int p3), (.int p2), (.int (3 : Int32)), (.ref a1)] _
    exact kk)
  obtain ⟨_, _, ⟨T26, L26, k26, n26⟩, -, X26, ⟨Lc26, hQ26, l26, y26, z26⟩, st26⟩ := Jvm.LawKit.callS X20 hx (y := (⟨"com/example/mendmark/mendmark/core/ScannerDeclarationEndPinLaw", "closeAt", "([CIII)Z"⟩ : MethodName)) hown (mvT hZ (hw _ (List.mem_of_getElem? (i := 41) rfl))) (mvT hZ (hw _ (List.mem_of_getElem? (i := 42) rfl))) (mvT hZ (hw _ (List.mem_of_getElem? (i := 4) rfl))) (mvT hZ (hw _ (List.mem_of_getElem? (i := 43) rfl))) (by decide) (backOf (W := 0) (rm8 l Z a0 hw [] a1 (3 : Int32) p2 p3 ka vs h0 n0 Z0 V_a1 hlim hfr) hZ (hw _ (List.mem_of_getElem? (i := 43) rfl)) (hw _ (List.mem_of_getElem? (i := 4) rfl)) (by decide) (by decide)) (g := (mkF m 58 #[rv a1, iv p2, iv p3, iv r22] [(.int p3), (.int p2), (.int (3 : Int32)), (.ref a1)])) rfl (by rw [hml]; rfl) (argsL := [(.ref a1), (.int (3 : Int32)), (.int p2), (.int p3)]) (rest := []) (lenOf pd_1 rfl) rfl (by show 2 * 0 + _ ≤ _; exact Nat.le_of_eq rfl) (hb hby d7_58) (fun _ _ => ⟨rfl, e20, (by decide : 0 + 0 ≤ _), (by decide : 0 + 0 ≤ _)⟩)
  dsimp only [Pt.U, Pt.locs, Pt.cells, Pt.slots] at X26 l26 y26 z26 st26 hQ26
  subst l26 y26 z26
  obtain ⟨rfl, N26q, e26⟩ := hQ26
  have N26 := Fr.app N20 N26q
  have pre27 : ∀ t, SS p e below m T26 61 #[rv a1, iv p2, iv p3, iv r22] [(.int (f8 (3 : Int32) p2 p3 vs))] t → B t := fun t kk => pre25 t (by
    refine st26 _ ?_
    show SS p e below m T26 61 #[rv a1, iv p2, iv p3, iv r22] [(.int (f8 (3 : Int32) p2 p3 vs))] _
    exact kk)
  obtain ⟨r28, g_r28⟩ : ∃ z : Int32, z = if (f8 (3 : Int32) p2 p3 vs) = (0 : Int32) then r22 else (3 : Int32) := ⟨_, rfl⟩
  have pre29 : ∀ t, SS p e below m T26 66 #[rv a1, iv p2, iv p3, iv r28] [] t → B t := by
    intro t kk
    by_cases hc30 : (f8 (3 : Int32) p2 p3 vs) = (0 : Int32)
    · rw [g_r28, if_pos hc30] at kk
      exact pre27 t (by
        refine XS.ifYes X26.here hx rfl (pc0 := 61) (pc' := 66) rfl (hb hby d7_61) rfl ((if0 _ _).trans (teq hc30).1) (by decide) (by decide) ?_
        show SS p e below m T26 66 #[rv a1, iv p2, iv p3, iv r22] [] _
        exact kk)
    · rw [g_r28, if_neg hc30] at kk
      exact pre27 t (by
        refine XS.ifNo X26.here hx rfl (hb hby d7_61) rfl ((if0 _ _).trans (feq hc30).1) ?_
        show SS p e below m T26 64 #[rv a1, iv p2, iv p3, iv r22] [] _
        refine XS.iconst X26.here hx rfl (hb hby d7_64) ?_
        show SS p e below m T26 65 #[rv a1, iv p2, iv p3, iv r22] [(.int (3 : Int32))] _
        refine XS.istoreN X26.here hx rfl (hb hby d7_65) rfl (l' := #[rv a1, iv p2, iv p3, iv (3 : Int32)]) rfl ?_
        show SS p e below m T26 66 #[rv a1, iv p2, iv p3, iv (3 : Int32)] [] _
        exact kk)
  have pre31 : ∀ t, SS p e below m T26 70 #[rv a1, iv p2, iv p3, iv r28] [(.int p3), (.int p2), (.int (2 : Int32)), (.ref a1)] t → B t := fun t kk => pre29 t (by
    refine XS.aloadN X26.here hx rfl (hb hby d7_66) rfl rfl ?_
    show SS p e below m T26 67 #[rv a1, iv p2, iv p3, iv r28] [(.ref a1)] _
    refine XS.iconst X26.here hx rfl (hb hby d7_67) ?_
    show SS p e below m T26 68 #[rv a1, iv p2, iv p3, iv r28] [(.int (2 : Int32)), (.ref a1)] _
    refine XS.iloadN X26.here hx rfl (hb hby d7_68) rfl ?_
    show SS p e below m T26 69 #[rv a1, iv p2, iv p3, iv r28] [(.int p2), (.int (2 : Int32)), (.ref a1)] _
    refine XS.iloadN X26.here hx rfl (hb hby d7_69) rfl ?_
    show SS p e below m T26 70 #[rv a1, iv p2, iv p3, iv r28] [(.int p3), (.int p2), (.int (2 : Int32)), (.ref a1)] _
    exact kk)
  obtain ⟨_, _, ⟨T32, L32, k32, n32⟩, -, X32, ⟨Lc32, hQ32, l32, y32, z32⟩, st32⟩ := Jvm.LawKit.callS X26 hx (y := (⟨"com/example/mendmark/mendmark/core/ScannerDeclarationEndPinLaw", "closeAt", "([CIII)Z"⟩ : MethodName)) hown (mvT hZ (hw _ (List.mem_of_getElem? (i := 41) rfl))) (mvT hZ (hw _ (List.mem_of_getElem? (i := 42) rfl))) (mvT hZ (hw _ (List.mem_of_getElem? (i := 4) rfl))) (mvT hZ (hw _ (List.mem_of_getElem? (i := 43) rfl))) (by decide) (backOf (W := 0) (rm8 l Z a0 hw [] a1 (2 : Int32) p2 p3 ka vs h0 n0 Z0 V_a1 hlim hfr) hZ (hw _ (List.mem_of_getElem? (i := 43) rfl)) (hw _ (List.mem_of_getElem? (i := 4) rfl)) (by decide) (by decide)) (g := (mkF m 70 #[rv a1, iv p2, iv p3, iv r28] [(.int p3), (.int p2), (.int (2 : Int32)), (.ref a1)])) rfl (by rw [hml]; rfl) (argsL := [(.ref a1), (.int (2 : Int32)), (.int p2), (.int p3)]) (rest := []) (lenOf pd_1 rfl) rfl (by show 2 * 0 + _ ≤ _; exact Nat.le_of_eq rfl) (hb hby d7_70) (fun _ _ => ⟨rfl, e26, (by decide : 0 + 0 ≤ _), (by decide : 0 + 0 ≤ _)⟩)
  dsimp only [Pt.U, Pt.locs, Pt.cells, Pt.slots] at X32 l32 y32 z32 st32 hQ32
  subst l32 y32 z32
  obtain ⟨rfl, N32q, e32⟩ := hQ32
  have N32 := Fr.app N26 N32q
  have pre33 : ∀ t, SS p e below m T32 73 #[rv a1, iv p2, iv p3, iv r28] [(.int (f8 (2 : Int32) p2 p3 vs))] t → B t := fun t kk => pre31 t (by
    refine st32 _ ?_
    show SS p e below m T32 73 #[rv a1, iv p2, iv p3, iv r28] [(.int (f8 (2 : Int32) p2 p3 vs))] _
    exact kk)
  obtain ⟨r34, g_r34⟩ : ∃ z : Int32, z = if (f8 (2 : Int32) p2 p3 vs) = (0 : Int32) then r28 else (2 : Int32) := ⟨_, rfl⟩
  have pre35 : ∀ t, SS p e below m T32 78 #[rv a1, iv p2, iv p3, iv r34] [] t → B t := by
    intro t kk
    by_cases hc36 : (f8 (2 : Int32) p2 p3 vs) = (0 : Int32)
    · rw [g_r34, if_pos hc36] at kk
      exact pre33 t (by
        refine XS.ifYes X32.here hx rfl (pc0 := 73) (pc' := 78) rfl (hb hby d7_73) rfl ((if0 _ _).trans (teq hc36).1) (by decide) (by decide) ?_
        show SS p e below m T32 78 #[rv a1, iv p2, iv p3, iv r28] [] _
        exact kk)
    · rw [g_r34, if_neg hc36] at kk
      exact pre33 t (by
        refine XS.ifNo X32.here hx rfl (hb hby d7_73) rfl ((if0 _ _).trans (feq hc36).1) ?_
        show SS p e below m T32 76 #[rv a1, iv p2, iv p3, iv r28] [] _
        refine XS.iconst X32.here hx rfl (hb hby d7_76) ?_
        show SS p e below m T32 77 #[rv a1, iv p2, iv p3, iv r28] [(.int (2 : Int32))] _
        refine XS.istoreN X32.here hx rfl (hb hby d7_77) rfl (l' := #[rv a1, iv p2, iv p3, iv (2 : Int32)]) rfl ?_
        show SS p e below m T32 78 #[rv a1, iv p2, iv p3, iv (2 : Int32)] [] _
        exact kk)
  have pre37 : ∀ t, SS p e below m T32 79 #[rv a1, iv p2, iv p3, iv r34] [(.int r34)] t → B t := fun t kk => pre35 t (by
    refine XS.iloadN X32.here hx rfl (hb hby d7_78) rfl ?_
    show SS p e below m T32 79 #[rv a1, iv p2, iv p3, iv r34] [(.int r34)] _
    exact kk)
  obtain ⟨fs, hr, hrun, hended, hW, hsame⟩ := X32.leave (v := some (.int r34)) (fun h => by rw [Bd.returns] at h; cases h)
  refine ⟨_, _, hB _ (pre37 _ ?_), hrun, hended, _, _, rfl, ?_, ⟨_, rfl⟩, hW, hsame.mono (by decide) (by decide)⟩
  · exact retI X32 hx Bd.returns (hb hby d7_79) hr
  · subst g_r34 g_r28 g_r22 g_r16 g_r10 g_r4
    exact ⟨by show _ = some (Value.int (f7 p2 p3 vs)); rw [f7], N32, e32⟩
def QN (Z : State) (a1 a2 : Addr) (ps lm : Int32) (h0 : Heap) (n0 : Nat) (v : Option Value) (h : Heap) (L : List Loc) : Prop := v = none ∧ Fr n0 L ∧ Keep h0 h [a1] ∧ Exa Z h a1 "com/example/mendmark/mendmark/core/Scanner" ∧ Fld Z h a1 "com/example/mendmark/mendmark/core/Scanner" "text" "[C" (.ref a2) ∧ Fld Z h a1 "com/example/mendmark/mendmark/core/Scanner" "pos" "I" (.int ps) ∧ Fld Z h a1 "com/example/mendmark/mendmark/core/Scanner" "limit" "I" (.int lm)
theorem d2_0 : decode prog_53_method_1_code 0 = .ok (.aload_n 0, 1) := by decide +kernel
theorem d2_1 : decode prog_53_method_1_code 1 = .ok (.invokespecial 1, 3) := by decide +kernel
theorem d2_4 : decode prog_53_method_1_code 4 = .ok (.aload_n 0, 1) := by decide +kernel
theorem d2_5 : decode prog_53_method_1_code 5 = .ok (.iconst (-1), 1) := by decide +kernel
theorem d2_6 : decode prog_53_method_1_code 6 = .ok (.putfield 7, 3) := by decide +kernel
theorem d2_9 : decode prog_53_method_1_code 9 = .ok (.aload_n 0, 1) := by decide +kernel
theorem d2_10 : decode prog_53_method_1_code 10 = .ok (.aload_n 1, 1) := by decide +kernel
theorem d2_11 : decode prog_53_method_1_code 11 = .ok (.putfield 13, 3) := by decide +kernel
theorem d2_14 : decode prog_53_method_1_code 14 = .ok (.aload_n 0, 1) := by decide +kernel
theorem d2_15 : decode prog_53_method_1_code 15 = .ok (.iload_n 2, 1) := by decide +kernel
theorem d2_16 : decode prog_53_method_1_code 16 = .ok (.putfield 17, 3) := by decide +kernel
theorem d2_19 : decode prog_53_method_1_code 19 = .ok (.aload_n 0, 1) := by decide +kernel
theorem d2_20 : decode prog_53_method_1_code 20 = .ok (.iload_n 3, 1) := by decide +kernel
theorem d2_21 : decode prog_53_method_1_code 21 = .ok (.putfield 20, 3) := by decide +kernel
theorem d2_24 : decode prog_53_method_1_code 24 = .ok (.aload_n 0, 1) := by decide +kernel
theorem d2_25 : decode prog_53_method_1_code 25 = .ok (.aload 4, 2) := by decide +kernel
theorem d2_27 : decode prog_53_method_1_code 27 = .ok (.putfield 23, 3) := by decide +kernel
theorem d2_30 : decode prog_53_method_1_code 30 = .ok (.aload_n 0, 1) := by decide +kernel
theorem d2_31 : decode prog_53_method_1_code 31 = .ok (.aload 5, 2) := by decide +kernel
theorem d2_33 : decode prog_53_method_1_code 33 = .ok (.putfield 27, 3) := by decide +kernel
theorem d2_36 : decode prog_53_method_1_code 36 = .ok (.return_, 1) := by decide +kernel
theorem pn_2 : plainName "com/example/mendmark/mendmark/core/Scanner" = true := by first | (simp [plainName, overriddenIn]; done) | decide +kernel
theorem ef_2 (m : MethodId) (a1 : Addr) (a2 : Addr) (p3 : Int32) (p4 : Int32) : entryFrame m #[(.ref a1), (.ref a2), (.int p3), (.int p4), .null, .null] 6 = mkF m 0 #[rv a1, rv a2, iv p3, iv p4, .val .null, .val .null] [] := by first | (simp [entryFrame, mkF, argsToLocals, Value.category]; done) | rfl
set_option maxRecDepth 65536 in
set_option maxHeartbeats 40000000 in
theorem rm2 (l : Launch) (Z : State) (a0 : Array Value) (hw : ∀ d ∈ tables_1, d.before a0 Z = true) (ws : List Jvm.Cond) (a1 : Addr) (a2 : Addr) (p3 : Int32) (p4 : Int32)  (h0 : Heap) (n0 : Nat) (Z0 : n0 ≤ h0.size) (E_a1 : Exa Z h0 a1 "com/example/mendmark/mendmark/core/Scanner") (g_a1 : n0 ≤ a1) (F_keptColon : Fld Z h0 a1 "com/example/mendmark/mendmark/core/Scanner" "keptColon" "I" (.int (0 : Int32))) (F_text : Fld Z h0 a1 "com/example/mendmark/mendmark/core/Scanner" "text" "[C" .null) (F_pos : Fld Z h0 a1 "com/example/mendmark/mendmark/core/Scanner" "pos" "I" (.int (0 : Int32))) (F_limit : Fld Z h0 a1 "com/example/mendmark/mendmark/core/Scanner" "limit" "I" (.int (0 : Int32))) (F_dtd : Fld Z h0 a1 "com/example/mendmark/mendmark/core/Scanner" "dtd" "Lcom/example/mendmark/mendmark/core/Dtd;" .null) (F_log : Fld Z h0 a1 "com/example/mendmark/mendmark/core/Scanner" "log" "Lcom/example/mendmark/mendmark/core/RepairLog;" .null) :
    MetFree l (⟨"com/example/mendmark/mendmark/core/Scanner", "<init>", "([CIILcom/example/mendmark/mendmark/core/Dtd;Lcom/example/mendmark/mendmark/core/RepairLog;)V"⟩ : MethodName) (head1 (Jvm.Cond.code (⟨"com/example/mendmark/mendmark/core/Scanner", "<init>", "([CIILcom/example/mendmark/mendmark/core/Dtd;Lcom/example/mendmark/mendmark/core/RepairLog;)V"⟩ : MethodName) prog_53_method_1_code 6 none :: ws) ({ frames := 1, cells := 0, slots := 0, locals := 12 } : Room)) (fun a U => a = #[(.ref a1), (.ref a2), (.int p3), (.int p4), .null, .null] ∧ Z.Warmed39 U.vm ∧ U.heap = h0) (fun _ _ _ _ _ => True) (fun _ U o U' => ∃ v L, o = .returned v ∧ QN Z a1 a2 p3 p4 h0 n0 v U'.heap L ∧ FrameEnd U o U' L ({ frames := 1, cells := 0, slots := 0, locals := 12 } : Room).cells ({ frames := 1, cells := 0, slots := 0, locals := 12 } : Room).slots) := by
  refine MetFree.of_bodySF (plainFor_of_name pn_2) hisR ?_
  intro p e s m args below meth c s₁ Bd hml0 hP hK
  obtain ⟨rfl, hZ, hh⟩ := hP
  have hx := Bd.exec
  have hby := Bd.bytes
  have hml : c.maxLocals = 6 := hml0
  have hown : s.vm.findClass "com/example/mendmark/mendmark/core/Scanner" = some m.cls := findClass_of_methodNamed Bd.named
  have hnm := (name_of_methodNamed Bd.named Bd.method).1
  have X0 : Stand p l e ({ frames := 1, cells := 0, slots := 0, locals := 12 } : Room) s m #[(.ref a1), (.ref a2), (.int p3), (.int p4), .null, .null] below meth c s₁ [] 0 0 := Stand.of_body Bd
  have e0 : s₁.heap = h0 := by rw [← hh, Bd.state]; rfl
  have N0 := Fr.nil n0
  obtain ⟨B, hB, pre0⟩ : ∃ B : State → Prop, (∀ t, B t → Steps p.tables e below (s₁.setTop (entryFrame m #[(.ref a1), (.ref a2), (.int p3), (.int p4), .null, .null] 6)) t) ∧ ∀ t, SS p e below m s₁ 0 #[rv a1, rv a2, iv p3, iv p4, .val .null, .val .null] [] t → B t := ⟨_, fun _ q => q, fun t kk => castTop (ef_2 m a1 a2 p3 p4) kk⟩
  have pre1 : ∀ t, SS p e below m s₁ 1 #[rv a1, rv a2, iv p3, iv p4, .val .null, .val .null] [(.ref a1)] t → B t := fun t kk => pre0 t (by
    show SS p e below m s₁ 0 #[rv a1, rv a2, iv p3, iv p4, .val .null, .val .null] [] _
    refine XS.aloadN X0.here hx rfl (hb hby d2_0) rfl rfl ?_
    show SS p e below m s₁ 1 #[rv a1, rv a2, iv p3, iv p4, .val .null, .val .null] [(.ref a1)] _
    exact kk)
  obtain ⟨T2, X2, e2, st2⟩ := initO X0 hx hZ hown (hw _ (List.mem_of_getElem? (i := 12) rfl)) (hw _ (List.mem_of_getElem? (i := 13) rfl)) (hw _ (List.mem_of_getElem? (i := 14) rfl)) e0 (g := (mkF m 1 #[rv a1, rv a2, iv p3, iv p4, .val .null, .val .null] [(.ref a1)])) rfl (by rw [hml]; rfl) rfl (hb hby d2_1) (by decide) (W := 0) (by show 2 * 0 + _ ≤ _; exact Nat.le_of_eq rfl) (by decide)
  have pre3 : ∀ t, SS p e below m T2 6 #[rv a1, rv a2, iv p3, iv p4, .val .null, .val .null] [(.int (-1 : Int32)), (.ref a1)] t → B t := fun t kk => pre1 t (by
    refine st2 _ ?_
    show SS p e below m T2 4 #[rv a1, rv a2, iv p3, iv p4, .val .null, .val .null] [] _
    refine XS.aloadN X2.here hx rfl (hb hby d2_4) rfl rfl ?_
    show SS p e below m T2 5 #[rv a1, rv a2, iv p3, iv p4, .val .null, .val .null] [(.ref a1)] _
    refine XS.iconst X2.here hx rfl (hb hby d2_5) ?_
    show SS p e below m T2 6 #[rv a1, rv a2, iv p3, iv p4, .val .null, .val .null] [(.int (-1 : Int32)), (.ref a1)] _
    exact kk)
  obtain ⟨T4, h4, X4, e4, W4, st4⟩ := putF X2 hx hZ hown (host := "") (Or.inl (hw _ (List.mem_of_getElem? (i := 15) rfl))) Via.refl e2 F_keptColon E_a1 (Or.inl (hw _ (List.mem_of_getElem? (i := 16) rfl))) (hw _ (List.mem_of_getElem? (i := 7) rfl)) (ty := .int) (by decide) rfl rfl (g := (mkF m 6 #[rv a1, rv a2, iv p3, iv p4, .val .null, .val .null] [(.int (-1 : Int32)), (.ref a1)])) rfl rfl (hb hby d2_6)
  have F5 := E_a1.wr W4
  have F6 := F_keptColon.same W4
  have F7 := F_text.other W4 (Or.inr (slot_ne (Or.inr (hw _ (List.mem_of_getElem? (i := 18) rfl))) (Or.inl (hw _ (List.mem_of_getElem? (i := 16) rfl))) (by decide) (t := (.array .char)) (t' := .int) (by decide) (by decide)))
  have F8 := F_pos.other W4 (Or.inr (slot_ne (Or.inl (hw _ (List.mem_of_getElem? (i := 20) rfl))) (Or.inl (hw _ (List.mem_of_getElem? (i := 16) rfl))) (by decide) (t := .int) (t' := .int) (by decide) (by decide)))
  have F9 := F_limit.other W4 (Or.inr (slot_ne (Or.inr (hw _ (List.mem_of_getElem? (i := 22) rfl))) (Or.inl (hw _ (List.mem_of_getElem? (i := 16) rfl))) (by decide) (t := .int) (t' := .int) (by decide) (by decide)))
  have F10 := F_dtd.other W4 (Or.inr (slot_ne (Or.inr (hw _ (List.mem_of_getElem? (i := 24) rfl))) (Or.inl (hw _ (List.mem_of_getElem? (i := 16) rfl))) (by decide) (t := (.object "com/example/mendmark/mendmark/core/Dtd")) (t' := .int) (by decide) (by decide)))
  have F11 := F_log.other W4 (Or.inr (slot_ne (Or.inr (hw _ (List.mem_of_getElem? (i := 26) rfl))) (Or.inl (hw _ (List.mem_of_getElem? (i := 16) rfl))) (by decide) (t := (.object "com/example/mendmark/mendmark/core/RepairLog")) (t' := .int) (by decide) (by decide)))
  have N4 := Fr.snoc X4 N0 g_a1
  have Z4 : n0 ≤ h4.size := Nat.le_trans Z0 (Keep.of_wr W4).1
  have K4 := (Keep.refl h0 [a1]).wr W4 (Or.inl (List.mem_of_getElem? (i := 0) rfl))
  have pre12 : ∀ t, SS p e below m T4 11 #[rv a1, rv a2, iv p3, iv p4, .val .null, .val .null] [(.ref a2), (.ref a1)] t → B t := fun t kk => pre3 t (by
    refine st4 _ ?_
    show SS p e below m T4 9 #[rv a1, rv a2, iv p3, iv p4, .val .null, .val .null] [] _
    refine XS.aloadN X4.here hx rfl (hb hby d2_9) rfl rfl ?_
    show SS p e below m T4 10 #[rv a1, rv a2, iv p3, iv p4, .val .null, .val .null] [(.ref a1)] _
    refine XS.aloadN X4.here hx rfl (hb hby d2_10) rfl rfl ?_
    show SS p e below m T4 11 #[rv a1, rv a2, iv p3, iv p4, .val .null, .val .null] [(.ref a2), (.ref a1)] _
    exact kk)
  obtain ⟨T13, h13, X13, e13, W13, st13⟩ := putF X4 hx hZ hown (host := "") (Or.inl (hw _ (List.mem_of_getElem? (i := 17) rfl))) Via.refl e4 F7 F5 (Or.inr ⟨(hw _ (List.mem_of_getElem? (i := 18) rfl)), rfl, hnm⟩) (hw _ (List.mem_of_getElem? (i := 7) rfl)) (ty := (.array .char)) (by decide) rfl rfl (g := (mkF m 11 #[rv a1, rv a2, iv p3, iv p4, .val .null, .val .null] [(.ref a2), (.ref a1)])) rfl rfl (hb hby d2_11)
  have F14 := F5.wr W13
  have F15 := F7.same W13
  have F16 := F8.other W13 (Or.inr (slot_ne (Or.inl (hw _ (List.mem_of_getElem? (i := 20) rfl))) (Or.inr (hw _ (List.mem_of_getElem? (i := 18) rfl))) (by decide) (t := .int) (t' := (.array .char)) (by decide) (by decide)))
  have F17 := F9.other W13 (Or.inr (slot_ne (Or.inr (hw _ (List.mem_of_getElem? (i := 22) rfl))) (Or.inr (hw _ (List.mem_of_getElem? (i := 18) rfl))) (by decide) (t := .int) (t' := (.array .char)) (by decide) (by decide)))
  have F18 := F10.other W13 (Or.inr (slot_ne (Or.inr (hw _ (List.mem_of_getElem? (i := 24) rfl))) (Or.inr (hw _ (List.mem_of_getElem? (i := 18) rfl))) (by decide) (t := (.object "com/example/mendmark/mendmark/core/Dtd")) (t' := (.array .char)) (by decide) (by decide)))
  have F19 := F11.other W13 (Or.inr (slot_ne (Or.inr (hw _ (List.mem_of_getElem? (i := 26) rfl))) (Or.inr (hw _ (List.mem_of_getElem? (i := 18) rfl))) (by decide) (t := (.object "com/example/mendmark/mendmark/core/RepairLog")) (t' := (.array .char)) (by decide) (by decide)))
  have N13 := Fr.snoc X13 N4 g_a1
  have Z13 : n0 ≤ h13.size := Nat.le_trans Z4 (Keep.of_wr W13).1
  have K13 := K4.wr W13 (Or.inl (List.mem_of_getElem? (i := 0) rfl))
  have pre20 : ∀ t, SS p e below m T13 16 #[rv a1, rv a2, iv p3, iv p4, .val .null, .val .null] [(.int p3), (.ref a1)] t → B t := fun t kk => pre12 t (by
    refine st13 _ ?_
    show SS p e below m T13 14 #[rv a1, rv a2, iv p3, iv p4, .val .null, .val .null] [] _
    refine XS.aloadN X13.here hx rfl (hb hby d2_14) rfl rfl ?_
    show SS p e below m T13 15 #[rv a1, rv a2, iv p3, iv p4, .val .null, .val .null] [(.ref a1)] _
    refine XS.iloadN X13.here hx rfl (hb hby d2_15) rfl ?_
    show SS p e below m T13 16 #[rv a1, rv a2, iv p3, iv p4, .val .null, .val .null] [(.int p3), (.ref a1)] _
    exact kk)
  obtain ⟨T21, h21, X21, e21, W21, st21⟩ := putF X13 hx hZ hown (host := "") (Or.inl (hw _ (List.mem_of_getElem? (i := 19) rfl))) Via.refl e13 F16 F14 (Or.inl (hw _ (List.mem_of_getElem? (i := 20) rfl))) (hw _ (List.mem_of_getElem? (i := 7) rfl)) (ty := .int) (by decide) rfl rfl (g := (mkF m 16 #[rv a1, rv a2, iv p3, iv p4, .val .null, .val .null] [(.int p3), (.ref a1)])) rfl rfl (hb hby d2_16)
  have F22 := F14.wr W21
  have F23 := F15.other W21 (Or.inr (slot_ne (Or.inr (hw _ (List.mem_of_getElem? (i := 18) rfl))) (Or.inl (hw _ (List.mem_of_getElem? (i := 20) rfl))) (by decide) (t := (.array .char)) (t' := .int) (by decide) (by decide)))
  have F24 := F16.same W21
  have F25 := F17.other W21 (Or.inr (slot_ne (Or.inr (hw _ (List.mem_of_getElem? (i := 22) rfl))) (Or.inl (hw _ (List.mem_of_getElem? (i := 20) rfl))) (by decide) (t := .int) (t' := .int) (by decide) (by decide)))
  have F26 := F18.other W21 (Or.inr (slot_ne (Or.inr (hw _ (List.mem_of_getElem? (i := 24) rfl))) (Or.inl (hw _ (List.mem_of_getElem? (i := 20) rfl))) (by decide) (t := (.object "com/example/mendmark/mendmark/core/Dtd")) (t' := .int) (by decide) (by decide)))
  have F27 := F19.other W21 (Or.inr (slot_ne (Or.inr (hw _ (List.mem_of_getElem? (i := 26) rfl))) (Or.inl (hw _ (List.mem_of_getElem? (i := 20) rfl))) (by decide) (t := (.object "com/example/mendmark/mendmark/core/RepairLog")) (t' := .int) (by decide) (by decide)))
  have N21 := Fr.snoc X21 N13 g_a1
  have Z21 : n0 ≤ h21.size := Nat.le_trans Z13 (Keep.of_wr W21).1
  have K21 := K13.wr W21 (Or.inl (List.mem_of_getElem? (i := 0) rfl))
  have pre28 : ∀ t, SS p e below m T21 21 #[rv a1, rv a2, iv p3, iv p4, .val .null, .val .null] [(.int p4), (.ref a1)] t → B t := fun t kk => pre20 t (by
    refine st21 _ ?_
    show SS p e below m T21 19 #[rv a1, rv a2, iv p3, iv p4, .val .null, .val .null] [] _
    refine XS.aloadN X21.here hx rfl (hb hby d2_19) rfl rfl ?_
    show SS p e below m T21 20 #[rv a1, rv a2, iv p3, iv p4, .val .null, .val .null] [(.ref a1)] _
    refine XS.iloadN X21.here hx rfl (hb hby d2_20) rfl ?_
    show SS p e below m T21 21 #[rv a1, rv a2, iv p3, iv p4, .val .null, .val .null] [(.int p4), (.ref a1)] _
    exact kk)
  obtain ⟨T29, h29, X29, e29, W29, st29⟩ := putF X21 hx hZ hown (host := "") (Or.inl (hw _ (List.mem_of_getElem? (i := 21) rfl))) Via.refl e21 F25 F22 (Or.inr ⟨(hw _ (List.mem_of_getElem? (i := 22) rfl)), rfl, hnm⟩) (hw _ (List.mem_of_getElem? (i := 7) rfl)) (ty := .int) (by decide) rfl rfl (g := (mkF m 21 #[rv a1, rv a2, iv p3, iv p4, .val .null, .val .null] [(.int p4), (.ref a1)])) rfl rfl (hb hby d2_21)
  have F30 := F22.wr W29
  have F31 := F23.other W29 (Or.inr (slot_ne (Or.inr (hw _ (List.mem_of_getElem? (i := 18) rfl))) (Or.inr (hw _ (List.mem_of_getElem? (i := 22) rfl))) (by decide) (t := (.array .char)) (t' := .int) (by decide) (by decide)))
  have F32 := F24.other W29 (Or.inr (slot_ne (Or.inl (hw _ (List.mem_of_getElem? (i := 20) rfl))) (Or.inr (hw _ (List.mem_of_getElem? (i := 22) rfl))) (by decide) (t := .int) (t' := .int) (by decide) (by decide)))
  have F33 := F25.same W29
  have F34 := F26.other W29 (Or.inr (slot_ne (Or.inr (hw _ (List.mem_of_getElem? (i := 24) rfl))) (Or.inr (hw _ (List.mem_of_getElem? (i := 22) rfl))) (by decide) (t := (.object "com/example/mendmark/mendmark/core/Dtd")) (t' := .int) (by decide) (by decide)))
  have F35 := F27.other W29 (Or.inr (slot_ne (Or.inr (hw _ (List.mem_of_getElem? (i := 26) rfl))) (Or.inr (hw _ (List.mem_of_getElem? (i := 22) rfl))) (by decide) (t := (.object "com/example/mendmark/mendmark/core/RepairLog")) (t' := .int) (by decide) (by decide)))
  have N29 := Fr.snoc X29 N21 g_a1
  have Z29 : n0 ≤ h29.size := Nat.le_trans Z21 (Keep.of_wr W29).1
  have K29 := K21.wr W29 (Or.inl (List.mem_of_getElem? (i := 0) rfl))
  have pre36 : ∀ t, SS p e below m T29 27 #[rv a1, rv a2, iv p3, iv p4, .val .null, .val .null] [.null, (.ref a1)] t → B t := fun t kk => pre28 t (by
    refine st29 _ ?_
    show SS p e below m T29 24 #[rv a1, rv a2, iv p3, iv p4, .val .null, .val .null] [] _
    refine XS.aloadN X29.here hx rfl (hb hby d2_24) rfl rfl ?_
    show SS p e below m T29 25 #[rv a1, rv a2, iv p3, iv p4, .val .null, .val .null] [(.ref a1)] _
    refine XS.aload X29.here hx rfl (hb hby d2_25) rfl rfl ?_
    show SS p e below m T29 27 #[rv a1, rv a2, iv p3, iv p4, .val .null, .val .null] [.null, (.ref a1)] _
    exact kk)
  obtain ⟨T37, h37, X37, e37, W37, st37⟩ := putF X29 hx hZ hown (host := "") (Or.inl (hw _ (List.mem_of_getElem? (i := 23) rfl))) Via.refl e29 F34 F30 (Or.inr ⟨(hw _ (List.mem_of_getElem? (i := 24) rfl)), rfl, hnm⟩) (hw _ (List.mem_of_getElem? (i := 7) rfl)) (ty := (.object "com/example/mendmark/mendmark/core/Dtd")) (by decide) rfl rfl (g := (mkF m 27 #[rv a1, rv a2, iv p3, iv p4, .val .null, .val .null] [.null, (.ref a1)])) rfl rfl (hb hby d2_27)
  have F38 := F30.wr W37
  have F39 := F31.other W37 (Or.inr (slot_ne (Or.inr (hw _ (List.mem_of_getElem? (i := 18) rfl))) (Or.inr (hw _ (List.mem_of_getElem? (i := 24) rfl))) (by decide) (t := (.array .char)) (t' := (.object "com/example/mendmark/mendmark/core/Dtd")) (by decide) (by decide)))
  have F40 := F32.other W37 (Or.inr (slot_ne (Or.inl (hw _ (List.mem_of_getElem? (i := 20) rfl))) (Or.inr (hw _ (List.mem_of_getElem? (i := 24) rfl))) (by decide) (t := .int) (t' := (.object "com/example/mendmark/mendmark/core/Dtd")) (by decide) (by decide)))
  have F41 := F33.other W37 (Or.inr (slot_ne (Or.inr (hw _ (List.mem_of_getElem? (i := 22) rfl))) (Or.inr (hw _ (List.mem_of_getElem? (i := 24) rfl))) (by decide) (t := .int) (t' := (.object "com/example/mendmark/mendmark/core/Dtd")) (by decide) (by decide)))
  have F42 := F34.same W37
  have F43 := F35.other W37 (Or.inr (slot_ne (Or.inr (hw _ (List.mem_of_getElem? (i := 26) rfl))) (Or.inr (hw _ (List.mem_of_getElem? (i := 24) rfl))) (by decide) (t := (.object "com/example/mendmark/mendmark/core/RepairLog")) (t' := (.object "com/example/mendmark/mendmark/core/Dtd")) (by decide) (by decide)))
  have N37 := Fr.snoc X37 N29 g_a1
  have Z37 : n0 ≤ h37.size := Nat.le_trans Z29 (Keep.of_wr W37).1
  have K37 := K29.wr W37 (Or.inl (List.mem_of_getElem? (i := 0) rfl))
  have pre44 : ∀ t, SS p e below m T37 33 #[rv a1, rv a2, iv p3, iv p4, .val .null, .val .null] [.null, (.ref a1)] t → B t := fun t kk => pre36 t (by
    refine st37 _ ?_
    show SS p e below m T37 30 #[rv a1, rv a2, iv p3, iv p4, .val .null, .val .null] [] _
    refine XS.aloadN X37.here hx rfl (hb hby d2_30) rfl rfl ?_
    show SS p e below m T37 31 #[rv a1, rv a2, iv p3, iv p4, .val .null, .val .null] [(.ref a1)] _
    refine XS.aload X37.here hx rfl (hb hby d2_31) rfl rfl ?_
    show SS p e below m T37 33 #[rv a1, rv a2, iv p3, iv p4, .val .null, .val .null] [.null, (.ref a1)] _
    exact kk)
  obtain ⟨T45, h45, X45, e45, W45, st45⟩ := putF X37 hx hZ hown (host := "") (Or.inl (hw _ (List.mem_of_getElem? (i := 25) rfl))) Via.refl e37 F43 F38 (Or.inr ⟨(hw _ (List.mem_of_getElem? (i := 26) rfl)), rfl, hnm⟩) (hw _ (List.mem_of_getElem? (i := 7) rfl)) (ty := (.object "com/example/mendmark/mendmark/core/RepairLog")) (by decide) rfl rfl (g := (mkF m 33 #[rv a1, rv a2, iv p3, iv p4, .val .null, .val .null] [.null, (.ref a1)])) rfl rfl (hb hby d2_33)
  have F46 := F38.wr W45
  have F47 := F39.other W45 (Or.inr (slot_ne (Or.inr (hw _ (List.mem_of_getElem? (i := 18) rfl))) (Or.inr (hw _ (List.mem_of_getElem? (i := 26) rfl))) (by decide) (t := (.array .char)) (t' := (.object "com/example/mendmark/mendmark/core/RepairLog")) (by decide) (by decide)))
  have F48 := F40.other W45 (Or.inr (slot_ne (Or.inl (hw _ (List.mem_of_getElem? (i := 20) rfl))) (Or.inr (hw _ (List.mem_of_getElem? (i := 26) rfl))) (by decide) (t := .int) (t' := (.object "com/example/mendmark/mendmark/core/RepairLog")) (by decide) (by decide)))
  have F49 := F41.other W45 (Or.inr (slot_ne (Or.inr (hw _ (List.mem_of_getElem? (i := 22) rfl))) (Or.inr (hw _ (List.mem_of_getElem? (i := 26) rfl))) (by decide) (t := .int) (t' := (.object "com/example/mendmark/mendmark/core/RepairLog")) (by decide) (by decide)))
  have F50 := F43.same W45
  have N45 := Fr.snoc X45 N37 g_a1
  have Z45 : n0 ≤ h45.size := Nat.le_trans Z37 (Keep.of_wr W45).1
  have K45 := K37.wr W45 (Or.inl (List.mem_of_getElem? (i := 0) rfl))
  have pre51 : ∀ t, SS p e below m T45 36 #[rv a1, rv a2, iv p3, iv p4, .val .null, .val .null] [] t → B t := fun t kk => pre44 t (by
    refine st45 _ ?_
    show SS p e below m T45 36 #[rv a1, rv a2, iv p3, iv p4, .val .null, .val .null] [] _
    exact kk)
  obtain ⟨fs, hr, hrun, hended, hW, hsame⟩ := X45.leave (v := none) (fun _ => rfl)
  refine ⟨_, _, hB _ (pre51 _ ?_), hrun, hended, _, _, rfl, ?_, ⟨_, rfl⟩, hW, hsame.mono (by decide) (by decide)⟩
  · exact X45.returnOut hx Bd.returns (hb hby d2_36) hr
  · show QN Z a1 a2 p3 p4 h0 n0 _ T45.heap _
    rw [e45]
    exact ⟨rfl, N45, K45, F46, F47, F48, F49⟩
theorem d4_0 : decode prog_53_method_32_code 0 = .ok (.iconst (-1), 1) := by decide +kernel
theorem d4_1 : decode prog_53_method_32_code 1 = .ok (.istore_n 2, 1) := by decide +kernel
theorem d4_2 : decode prog_53_method_32_code 2 = .ok (.iconst (-1), 1) := by decide +kernel
theorem d4_3 : decode prog_53_method_32_code 3 = .ok (.istore_n 3, 1) := by decide +kernel
theorem d4_4 : decode prog_53_method_32_code 4 = .ok (.iload_n 1, 1) := by decide +kernel
theorem d4_5 : decode prog_53_method_32_code 5 = .ok (.iconst 2, 1) := by decide +kernel
theorem d4_6 : decode prog_53_method_32_code 6 = .ok (.iadd, 1) := by decide +kernel
theorem d4_7 : decode prog_53_method_32_code 7 = .ok (.istore 4, 2) := by decide +kernel
theorem d4_9 : decode prog_53_method_32_code 9 = .ok (.iload_n 2, 1) := by decide +kernel
theorem d4_10 : decode prog_53_method_32_code 10 = .ok (.ifCond .ge 85, 3) := by decide +kernel
theorem d4_13 : decode prog_53_method_32_code 13 = .ok (.iload 4, 2) := by decide +kernel
theorem d4_15 : decode prog_53_method_32_code 15 = .ok (.aload_n 0, 1) := by decide +kernel
theorem d4_16 : decode prog_53_method_32_code 16 = .ok (.getfield 20, 3) := by decide +kernel
theorem d4_19 : decode prog_53_method_32_code 19 = .ok (.if_icmp .ge 76, 3) := by decide +kernel
theorem d4_22 : decode prog_53_method_32_code 22 = .ok (.aload_n 0, 1) := by decide +kernel
theorem d4_23 : decode prog_53_method_32_code 23 = .ok (.getfield 13, 3) := by decide +kernel
theorem d4_26 : decode prog_53_method_32_code 26 = .ok (.iload 4, 2) := by decide +kernel
theorem d4_28 : decode prog_53_method_32_code 28 = .ok (.caload, 1) := by decide +kernel
theorem d4_29 : decode prog_53_method_32_code 29 = .ok (.bipush 60, 2) := by decide +kernel
theorem d4_31 : decode prog_53_method_32_code 31 = .ok (.if_icmp .eq 64, 3) := by decide +kernel
theorem d4_34 : decode prog_53_method_32_code 34 = .ok (.aload_n 0, 1) := by decide +kernel
theorem d4_35 : decode prog_53_method_32_code 35 = .ok (.getfield 13, 3) := by decide +kernel
theorem d4_38 : decode prog_53_method_32_code 38 = .ok (.iload 4, 2) := by decide +kernel
theorem d4_40 : decode prog_53_method_32_code 40 = .ok (.caload, 1) := by decide +kernel
theorem d4_41 : decode prog_53_method_32_code 41 = .ok (.bipush 62, 2) := by decide +kernel
theorem d4_43 : decode prog_53_method_32_code 43 = .ok (.if_icmp .ne 25, 3) := by decide +kernel
theorem d4_46 : decode prog_53_method_32_code 46 = .ok (.aload_n 0, 1) := by decide +kernel
theorem d4_47 : decode prog_53_method_32_code 47 = .ok (.getfield 13, 3) := by decide +kernel
theorem d4_50 : decode prog_53_method_32_code 50 = .ok (.iload 4, 2) := by decide +kernel
theorem d4_52 : decode prog_53_method_32_code 52 = .ok (.iconst 1, 1) := by decide +kernel
theorem d4_53 : decode prog_53_method_32_code 53 = .ok (.isub, 1) := by decide +kernel
theorem d4_54 : decode prog_53_method_32_code 54 = .ok (.caload, 1) := by decide +kernel
theorem d4_55 : decode prog_53_method_32_code 55 = .ok (.bipush 63, 2) := by decide +kernel
theorem d4_57 : decode prog_53_method_32_code 57 = .ok (.if_icmp .ne 11, 3) := by decide +kernel
theorem d4_60 : decode prog_53_method_32_code 60 = .ok (.iload 4, 2) := by decide +kernel
theorem d4_62 : decode prog_53_method_32_code 62 = .ok (.iconst 1, 1) := by decide +kernel
theorem d4_63 : decode prog_53_method_32_code 63 = .ok (.iadd, 1) := by decide +kernel
theorem d4_64 : decode prog_53_method_32_code 64 = .ok (.istore_n 2, 1) := by decide +kernel
theorem d4_65 : decode prog_53_method_32_code 65 = .ok (.goto 24, 3) := by decide +kernel
theorem d4_68 : decode prog_53_method_32_code 68 = .ok (.aload_n 0, 1) := by decide +kernel
theorem d4_69 : decode prog_53_method_32_code 69 = .ok (.getfield 13, 3) := by decide +kernel
theorem d4_72 : decode prog_53_method_32_code 72 = .ok (.iload 4, 2) := by decide +kernel
theorem d4_74 : decode prog_53_method_32_code 74 = .ok (.caload, 1) := by decide +kernel
theorem d4_75 : decode prog_53_method_32_code 75 = .ok (.bipush 62, 2) := by decide +kernel
theorem d4_77 : decode prog_53_method_32_code 77 = .ok (.if_icmp .ne 12, 3) := by decide +kernel
theorem d4_80 : decode prog_53_method_32_code 80 = .ok (.iload_n 3, 1) := by decide +kernel
theorem d4_81 : decode prog_53_method_32_code 81 = .ok (.ifCond .ge 8, 3) := by decide +kernel
theorem d4_84 : decode prog_53_method_32_code 84 = .ok (.iload 4, 2) := by decide +kernel
theorem d4_86 : decode prog_53_method_32_code 86 = .ok (.iconst 1, 1) := by decide +kernel
theorem d4_87 : decode prog_53_method_32_code 87 = .ok (.iadd, 1) := by decide +kernel
theorem d4_88 : decode prog_53_method_32_code 88 = .ok (.istore_n 3, 1) := by decide +kernel
theorem d4_89 : decode prog_53_method_32_code 89 = .ok (.iinc 4 1, 3) := by decide +kernel
theorem d4_92 : decode prog_53_method_32_code 92 = .ok (.goto (-83), 3) := by decide +kernel
theorem d4_95 : decode prog_53_method_32_code 95 = .ok (.iload_n 2, 1) := by decide +kernel
theorem d4_96 : decode prog_53_method_32_code 96 = .ok (.ifCond .lt 9, 3) := by decide +kernel
theorem d4_99 : decode prog_53_method_32_code 99 = .ok (.iload_n 2, 1) := by decide +kernel
theorem d4_100 : decode prog_53_method_32_code 100 = .ok (.istore 5, 2) := by decide +kernel
theorem d4_102 : decode prog_53_method_32_code 102 = .ok (.goto 17, 3) := by decide +kernel
theorem d4_105 : decode prog_53_method_32_code 105 = .ok (.iload_n 3, 1) := by decide +kernel
theorem d4_106 : decode prog_53_method_32_code 106 = .ok (.ifCond .lt 9, 3) := by decide +kernel
theorem d4_109 : decode prog_53_method_32_code 109 = .ok (.iload_n 3, 1) := by decide +kernel
theorem d4_110 : decode prog_53_method_32_code 110 = .ok (.istore 5, 2) := by decide +kernel
theorem d4_112 : decode prog_53_method_32_code 112 = .ok (.goto 7, 3) := by decide +kernel
theorem d4_115 : decode prog_53_method_32_code 115 = .ok (.iload 4, 2) := by decide +kernel
theorem d4_117 : decode prog_53_method_32_code 117 = .ok (.istore 5, 2) := by decide +kernel
theorem d4_119 : decode prog_53_method_32_code 119 = .ok (.iload 5, 2) := by decide +kernel
theorem d4_121 : decode prog_53_method_32_code 121 = .ok (.ireturn, 1) := by decide +kernel
theorem pn_4 : plainName "com/example/mendmark/mendmark/core/Scanner" = true := by first | (simp [plainName, overriddenIn]; done) | decide +kernel
theorem ef_4 (m : MethodId) (a1 : Addr) (p2 : Int32) : entryFrame m #[(.ref a1), (.int p2)] 6 = mkF m 0 #[rv a1, iv p2, .unset, .unset, .unset, .unset] [] := by first | (simp [entryFrame, mkF, argsToLocals, Value.category]; done) | rfl
def dl (vs : List Int32) (lm : Int32) : Nat → Int32 → Int32 → Int32 → Int32
  | 0, _, _, _ => (-1 : Int32)
  | k + 1, i, gt, fd => (if fd < (0 : Int32) then (if i < lm then (if (vs.getD (i).toNatClampNeg 0) = (60 : Int32) then (if gt < (0 : Int32) then i else gt) else (if (vs.getD (i).toNatClampNeg 0) = (62 : Int32) then (if (vs.getD ((i - (1 : Int32))).toNatClampNeg 0) = (63 : Int32) then (dl vs lm k (i + (1 : Int32)) gt (i + (1 : Int32))) else (if gt < (0 : Int32) then (dl vs lm k (i + (1 : Int32)) (i + (1 : Int32)) fd) else (dl vs lm k (i + (1 : Int32)) gt fd))) else (dl vs lm k (i + (1 : Int32)) gt fd))) else (if gt < (0 : Int32) then i else gt)) else fd)
def f4 (p2 : Int32) (lm : Int32) (vs : List Int32) : Int32 := (dl vs lm (10 - (p2 + (2 : Int32)).toNatClampNeg) (p2 + (2 : Int32)) (-1 : Int32) (-1 : Int32))
set_option maxRecDepth 65536 in
set_option maxHeartbeats 40000000 in
theorem rm4 (l : Launch) (Z : State) (a0 : Array Value) (hw : ∀ d ∈ tables_1, d.before a0 Z = true) (ws : List Jvm.Cond) (a1 : Addr) (p2 : Int32) (b : Addr) (lm : Int32) (ka : ClassId) (vs : List Int32) (h0 : Heap) (n0 : Nat) (Z0 : n0 ≤ h0.size) (F_limit : Fld Z h0 a1 "com/example/mendmark/mendmark/core/Scanner" "limit" "I" (.int lm)) (F_text : Fld Z h0 a1 "com/example/mendmark/mendmark/core/Scanner" "text" "[C" (.ref b)) (V_b : Arv Z h0 b ka .char (8 : Int32) (vs.map Value.int) (.int (0 : Int32))) (hlm : lm.toInt ≤ 8) (hi0 : 2 ≤ (p2 + (2 : Int32)).toInt ∧ (p2 + (2 : Int32)).toInt ≤ 9) :
    MetFree l (⟨"com/example/mendmark/mendmark/core/Scanner", "declarationEnd", "(I)I"⟩ : MethodName) (head1 (Jvm.Cond.code (⟨"com/example/mendmark/mendmark/core/Scanner", "declarationEnd", "(I)I"⟩ : MethodName) prog_53_method_32_code 6 (some .int) :: ws) ({ frames := 0, cells := 0, slots := 0, locals := 0 } : Room)) (fun a U => a = #[(.ref a1), (.int p2)] ∧ Z.Warmed39 U.vm ∧ U.heap = h0) (fun _ _ _ _ _ => True) (fun _ U o U' => ∃ v L, o = .returned v ∧ QI (f4 p2 lm vs) h0 n0 v U'.heap L ∧ FrameEnd U o U' L ({ frames := 0, cells := 0, slots := 0, locals := 0 } : Room).cells ({ frames := 0, cells := 0, slots := 0, locals := 0 } : Room).slots) := by
  refine MetFree.of_bodySF (plainFor_of_name pn_4) hisR ?_
  intro p e s m args below meth c s₁ Bd hml0 hP hK
  obtain ⟨rfl, hZ, hh⟩ := hP
  have hx := Bd.exec
  have hby := Bd.bytes
  have hml : c.maxLocals = 6 := hml0
  have hown : s.vm.findClass "com/example/mendmark/mendmark/core/Scanner" = some m.cls := findClass_of_methodNamed Bd.named
  have hnm := (name_of_methodNamed Bd.named Bd.method).1
  have X0 : Stand p l e ({ frames := 0, cells := 0, slots := 0, locals := 0 } : Room) s m #[(.ref a1), (.int p2)] below meth c s₁ [] 0 0 := Stand.of_body Bd
  have e0 : s₁.heap = h0 := by rw [← hh, Bd.state]; rfl
  have N0 := Fr.nil n0
  obtain ⟨B, hB, pre0⟩ : ∃ B : State → Prop, (∀ t, B t → Steps p.tables e below (s₁.setTop (entryFrame m #[(.ref a1), (.int p2)] 6)) t) ∧ ∀ t, SS p e below m s₁ 0 #[rv a1, iv p2, .unset, .unset, .unset, .unset] [] t → B t := ⟨_, fun _ q => q, fun t kk => castTop (ef_4 m a1 p2) kk⟩
  have pre1 : ∀ t, SS p e below m s₁ 9 #[rv a1, iv p2, iv (-1 : Int32), iv (-1 : Int32), iv (p2 + (2 : Int32)), .unset] [] t → B t := fun t kk => pre0 t (by
    show SS p e below m s₁ 0 #[rv a1, iv p2, .unset, .unset, .unset, .unset] [] _
    refine XS.iconst X0.here hx rfl (hb hby d4_0) ?_
    show SS p e below m s₁ 1 #[rv a1, iv p2, .unset, .unset, .unset, .unset] [(.int (-1 : Int32))] _
    refine XS.istoreN X0.here hx rfl (hb hby d4_1) rfl (l' := #[rv a1, iv p2, iv (-1 : Int32), .unset, .unset, .unset]) rfl ?_
    show SS p e below m s₁ 2 #[rv a1, iv p2, iv (-1 : Int32), .unset, .unset, .unset] [] _
    refine XS.iconst X0.here hx rfl (hb hby d4_2) ?_
    show SS p e below m s₁ 3 #[rv a1, iv p2, iv (-1 : Int32), .unset, .unset, .unset] [(.int (-1 : Int32))] _
    refine XS.istoreN X0.here hx rfl (hb hby d4_3) rfl (l' := #[rv a1, iv p2, iv (-1 : Int32), iv (-1 : Int32), .unset, .unset]) rfl ?_
    show SS p e below m s₁ 4 #[rv a1, iv p2, iv (-1 : Int32), iv (-1 : Int32), .unset, .unset] [] _
    refine XS.iloadN X0.here hx rfl (hb hby d4_4) rfl ?_
    show SS p e below m s₁ 5 #[rv a1, iv p2, iv (-1 : Int32), iv (-1 : Int32), .unset, .unset] [(.int p2)] _
    refine XS.iconst X0.here hx rfl (hb hby d4_5) ?_
    show SS p e below m s₁ 6 #[rv a1, iv p2, iv (-1 : Int32), iv (-1 : Int32), .unset, .unset] [(.int (2 : Int32)), (.int p2)] _
    refine XS.iadd X0.here hx rfl (hb hby d4_6) rfl ?_
    show SS p e below m s₁ 7 #[rv a1, iv p2, iv (-1 : Int32), iv (-1 : Int32), .unset, .unset] [(.int (p2 + (2 : Int32)))] _
    refine XS.istore X0.here hx rfl (hb hby d4_7) rfl (l' := #[rv a1, iv p2, iv (-1 : Int32), iv (-1 : Int32), iv (p2 + (2 : Int32)), .unset]) rfl ?_
    show SS p e below m s₁ 9 #[rv a1, iv p2, iv (-1 : Int32), iv (-1 : Int32), iv (p2 + (2 : Int32)), .unset] [] _
    exact kk)
  have loop : ∀ (k : Nat) (i gt fd : Int32) (T0 : State), Stand p l e ({ frames := 0, cells := 0, slots := 0, locals := 0 } : Room) s m #[(.ref a1), (.int p2)] below meth c T0 [] 0 0 → T0.heap = h0 → (2 ≤ i.toInt ∧ i.toInt ≤ 9 ∧ i.toInt + k = 10) →
      ∃ (T' : State) (pc : Nat) (Ls : Array Slot), Stand p l e ({ frames := 0, cells := 0, slots := 0, locals := 0 } : Room) s m #[(.ref a1), (.int p2)] below meth c T' [] 0 0 ∧ T'.heap = h0 ∧ decode c.code pc = .ok (.ireturn, 1) ∧ ∀ t, Steps p.tables e below (T'.setTop (mkF m pc Ls [(.int (dl vs lm k i gt fd))])) t → Steps p.tables e below (T0.setTop (mkF m 9 #[rv a1, iv p2, iv fd, iv gt, iv i, .unset] [])) t := by
    intro k
    induction k with
    | zero => intro i gt fd T0 X0 e0 hk; omega
    | succ k ih =>
      intro i gt fd T0 X0 e0 hk
      have preL : ∀ t, Steps p.tables e below (T0.setTop (mkF m 9 #[rv a1, iv p2, iv fd, iv gt, iv i, .unset] [])) t → Steps p.tables e below (T0.setTop (mkF m 9 #[rv a1, iv p2, iv fd, iv gt, iv i, .unset] [])) t := fun t kk => kk
      have pre2 : ∀ t, SS p e below m T0 10 #[rv a1, iv p2, iv fd, iv gt, iv i, .unset] [(.int fd)] t → Steps p.tables e below (T0.setTop (mkF m 9 #[rv a1, iv p2, iv fd, iv gt, iv i, .unset] [])) t := fun t kk => preL t (by
        show SS p e below m T0 9 #[rv a1, iv p2, iv fd, iv gt, iv i, .unset] [] _
        refine XS.iloadN X0.here hx rfl (hb hby d4_9) rfl ?_
        show SS p e below m T0 10 #[rv a1, iv p2, iv fd, iv gt, iv i, .unset] [(.int fd)] _
        exact kk)
      by_cases hc3 : fd < (0 : Int32)
      · have pre4 : ∀ t, SS p e below m T0 16 #[rv a1, iv p2, iv fd, iv gt, iv i, .unset] [(.ref a1), (.int i)] t → Steps p.tables e below (T0.setTop (mkF m 9 #[rv a1, iv p2, iv fd, iv gt, iv i, .unset] [])) t := fun t kk => pre2 t (by
          refine XS.ifNo X0.here hx rfl (hb hby d4_10) rfl ((if0 _ _).trans (tlt hc3).2.1) ?_
          show SS p e below m T0 13 #[rv a1, iv p2, iv fd, iv gt, iv i, .unset] [] _
          refine XS.iload X0.here hx rfl (hb hby d4_13) rfl ?_
          show SS p e below m T0 15 #[rv a1, iv p2, iv fd, iv gt, iv i, .unset] [(.int i)] _
          refine XS.aloadN X0.here hx rfl (hb hby d4_15) rfl rfl ?_
          show SS p e below m T0 16 #[rv a1, iv p2, iv fd, iv gt, iv i, .unset] [(.ref a1), (.int i)] _
          exact kk)
        obtain ⟨T5, X5, e5, st5⟩ := getF X0 hx hZ hown (host := "") (Or.inl (hw _ (List.mem_of_getElem? (i := 21) rfl))) Via.refl e0 F_limit (g := (mkF m 16 #[rv a1, iv p2, iv fd, iv gt, iv i, .unset] [(.ref a1), (.int i)])) rfl rfl (hb hby d4_16)
        have pre6 : ∀ t, SS p e below m T5 19 #[rv a1, iv p2, iv fd, iv gt, iv i, .unset] [(.int lm), (.int i)] t → Steps p.tables e below (T0.setTop (mkF m 9 #[rv a1, iv p2, iv fd, iv gt, iv i, .unset] [])) t := fun t kk => pre4 t (by
          refine st5 _ ?_
          show SS p e below m T5 19 #[rv a1, iv p2, iv fd, iv gt, iv i, .unset] [(.int lm), (.int i)] _
          exact kk)
        by_cases hc7 : i < lm
        · have pre8 : ∀ t, SS p e below m T5 23 #[rv a1, iv p2, iv fd, iv gt, iv i, .unset] [(.ref a1)] t → Steps p.tables e below (T0.setTop (mkF m 9 #[rv a1, iv p2, iv fd, iv gt, iv i, .unset] [])) t := fun t kk => pre6 t (by
            refine XS.icmpNo X5.here hx rfl (hb hby d4_19) rfl (tlt hc7).2.1 ?_
            show SS p e below m T5 22 #[rv a1, iv p2, iv fd, iv gt, iv i, .unset] [] _
            refine XS.aloadN X5.here hx rfl (hb hby d4_22) rfl rfl ?_
            show SS p e below m T5 23 #[rv a1, iv p2, iv fd, iv gt, iv i, .unset] [(.ref a1)] _
            exact kk)
          obtain ⟨T9, X9, e9, st9⟩ := getF X5 hx hZ hown (host := "") (Or.inl (hw _ (List.mem_of_getElem? (i := 17) rfl))) Via.refl e5 F_text (g := (mkF m 23 #[rv a1, iv p2, iv fd, iv gt, iv i, .unset] [(.ref a1)])) rfl rfl (hb hby d4_23)
          have pre10 : ∀ t, SS p e below m T9 28 #[rv a1, iv p2, iv fd, iv gt, iv i, .unset] [(.int i), (.ref b)] t → Steps p.tables e below (T0.setTop (mkF m 9 #[rv a1, iv p2, iv fd, iv gt, iv i, .unset] [])) t := fun t kk => pre8 t (by
            refine st9 _ ?_
            show SS p e below m T9 26 #[rv a1, iv p2, iv fd, iv gt, iv i, .unset] [(.ref b)] _
            refine XS.iload X9.here hx rfl (hb hby d4_26) rfl ?_
            show SS p e below m T9 28 #[rv a1, iv p2, iv fd, iv gt, iv i, .unset] [(.int i), (.ref b)] _
            exact kk)
          obtain ⟨cl11, Ar11, -, S11, -, H11, -⟩ := id V_b
          have hin11 : ¬ (i < 0 ∨ cl11.slots.size ≤ (i).toNatClampNeg) := inb_of S11 (own_in8 i (by
            have := own_lt hc3
            have := own_lt hc7
            have L0 : (0 : Int32).toInt = 0 := by decide
            have L1 : (1 : Int32).toInt = 1 := by decide
            have L2 : (2 : Int32).toInt = 2 := by decide
            have L8 : (8 : Int32).toInt = 8 := by decide
            omega))
          have hat11 : cl11.slots[(i).toNatClampNeg]? = some (.int (vs.getD (i).toNatClampNeg 0)) := by
            rw [H11 _ (Nat.lt_of_not_le fun q => hin11 (Or.inr q))]; exact congrArg some (own_getD vs _ 0)
          have pre12 : ∀ t, SS p e below m T9 31 #[rv a1, iv p2, iv fd, iv gt, iv i, .unset] [(.int (60 : Int32)), (.int (vs.getD (i).toNatClampNeg 0))] t → Steps p.tables e below (T0.setTop (mkF m 9 #[rv a1, iv p2, iv fd, iv gt, iv i, .unset] [])) t := fun t kk => pre10 t (by
            refine X9.caload hx (j := i) (v := (.int (vs.getD (i).toNatClampNeg 0))) (by rw [e9]; exact Ar11.1) (State.isArrayOf_alike hZ.alike Ar11.2.1) Ar11.2.2 hin11 hat11 (g := (mkF m 28 #[rv a1, iv p2, iv fd, iv gt, iv i, .unset] [(.int i), (.ref b)])) rfl rfl (hb hby d4_28) _ ?_
            show SS p e below m T9 29 #[rv a1, iv p2, iv fd, iv gt, iv i, .unset] [(.int (vs.getD (i).toNatClampNeg 0))] _
            refine XS.bipush X9.here hx rfl (hb hby d4_29) ?_
            show SS p e below m T9 31 #[rv a1, iv p2, iv fd, iv gt, iv i, .unset] [(.int (60 : Int32)), (.int (vs.getD (i).toNatClampNeg 0))] _
            exact kk)
          by_cases hc13 : (vs.getD (i).toNatClampNeg 0) = (60 : Int32)
          · have pre14 : ∀ t, SS p e below m T9 106 #[rv a1, iv p2, iv fd, iv gt, iv i, .unset] [(.int gt)] t → Steps p.tables e below (T0.setTop (mkF m 9 #[rv a1, iv p2, iv fd, iv gt, iv i, .unset] [])) t := fun t kk => pre12 t (by
              refine XS.icmpYes X9.here hx rfl (pc0 := 31) (pc' := 95) rfl (hb hby d4_31) rfl (teq hc13).1 (by decide) (by decide) ?_
              show SS p e below m T9 95 #[rv a1, iv p2, iv fd, iv gt, iv i, .unset] [] _
              refine XS.iloadN X9.here hx rfl (hb hby d4_95) rfl ?_
              show SS p e below m T9 96 #[rv a1, iv p2, iv fd, iv gt, iv i, .unset] [(.int fd)] _
              refine XS.ifYes X9.here hx rfl (pc0 := 96) (pc' := 105) rfl (hb hby d4_96) rfl ((if0 _ _).trans (tlt hc3).1) (by decide) (by decide) ?_
              show SS p e below m T9 105 #[rv a1, iv p2, iv fd, iv gt, iv i, .unset] [] _
              refine XS.iloadN X9.here hx rfl (hb hby d4_105) rfl ?_
              show SS p e below m T9 106 #[rv a1, iv p2, iv fd, iv gt, iv i, .unset] [(.int gt)] _
              exact kk)
            by_cases hc15 : gt < (0 : Int32)
            · have pre16 : ∀ t, SS p e below m T9 121 #[rv a1, iv p2, iv fd, iv gt, iv i, iv i] [(.int i)] t → Steps p.tables e below (T0.setTop (mkF m 9 #[rv a1, iv p2, iv fd, iv gt, iv i, .unset] [])) t := fun t kk => pre14 t (by
                refine XS.ifYes X9.here hx rfl (pc0 := 106) (pc' := 115) rfl (hb hby d4_106) rfl ((if0 _ _).trans (tlt hc15).1) (by decide) (by decide) ?_
                show SS p e below m T9 115 #[rv a1, iv p2, iv fd, iv gt, iv i, .unset] [] _
                refine XS.iload X9.here hx rfl (hb hby d4_115) rfl ?_
                show SS p e below m T9 117 #[rv a1, iv p2, iv fd, iv gt, iv i, .unset] [(.int i)] _
                refine XS.istore X9.here hx rfl (hb hby d4_117) rfl (l' := #[rv a1, iv p2, iv fd, iv gt, iv i, iv i]) rfl ?_
                show SS p e below m T9 119 #[rv a1, iv p2, iv fd, iv gt, iv i, iv i] [] _
                refine XS.iload X9.here hx rfl (hb hby d4_119) rfl ?_
                show SS p e below m T9 121 #[rv a1, iv p2, iv fd, iv gt, iv i, iv i] [(.int i)] _
                exact kk)
              exact ⟨T9, 121, _, X9, e9, (hb hby d4_121), fun t kk => pre16 t (by rw [show dl vs lm (k + 1) i gt fd = i from by rw [dl, if_pos hc3, if_pos hc7, if_pos hc13, if_pos hc15]] at kk; exact kk)⟩
            · have pre17 : ∀ t, SS p e below m T9 121 #[rv a1, iv p2, iv fd, iv gt, iv i, iv gt] [(.int gt)] t → Steps p.tables e below (T0.setTop (mkF m 9 #[rv a1, iv p2, iv fd, iv gt, iv i, .unset] [])) t := fun t kk => pre14 t (by
                refine XS.ifNo X9.here hx rfl (hb hby d4_106) rfl ((if0 _ _).trans (flt hc15).1) ?_
                show SS p e below m T9 109 #[rv a1, iv p2, iv fd, iv gt, iv i, .unset] [] _
                refine XS.iloadN X9.here hx rfl (hb hby d4_109) rfl ?_
                show SS p e below m T9 110 #[rv a1, iv p2, iv fd, iv gt, iv i, .unset] [(.int gt)] _
                refine XS.istore X9.here hx rfl (hb hby d4_110) rfl (l' := #[rv a1, iv p2, iv fd, iv gt, iv i, iv gt]) rfl ?_
                show SS p e below m T9 112 #[rv a1, iv p2, iv fd, iv gt, iv i, iv gt] [] _
                refine XS.goto X9.here hx rfl (pc0 := 112) (pc' := 119) rfl (hb hby d4_112) (by decide) (by decide) ?_
                show SS p e below m T9 119 #[rv a1, iv p2, iv fd, iv gt, iv i, iv gt] [] _
                refine XS.iload X9.here hx rfl (hb hby d4_119) rfl ?_
                show SS p e below m T9 121 #[rv a1, iv p2, iv fd, iv gt, iv i, iv gt] [(.int gt)] _
                exact kk)
              exact ⟨T9, 121, _, X9, e9, (hb hby d4_121), fun t kk => pre17 t (by rw [show dl vs lm (k + 1) i gt fd = gt from by rw [dl, if_pos hc3, if_pos hc7, if_pos hc13, if_neg hc15]] at kk; exact kk)⟩
          · have pre18 : ∀ t, SS p e below m T9 35 #[rv a1, iv p2, iv fd, iv gt, iv i, .unset] [(.ref a1)] t → Steps p.tables e below (T0.setTop (mkF m 9 #[rv a1, iv p2, iv fd, iv gt, iv i, .unset] [])) t := fun t kk => pre12 t (by
              refine XS.icmpNo X9.here hx rfl (hb hby d4_31) rfl (feq hc13).1 ?_
              show SS p e below m T9 34 #[rv a1, iv p2, iv fd, iv gt, iv i, .unset] [] _
              refine XS.aloadN X9.here hx rfl (hb hby d4_34) rfl rfl ?_
              show SS p e below m T9 35 #[rv a1, iv p2, iv fd, iv gt, iv i, .unset] [(.ref a1)] _
              exact kk)
            obtain ⟨T19, X19, e19, st19⟩ := getF X9 hx hZ hown (host := "") (Or.inl (hw _ (List.mem_of_getElem? (i := 17) rfl))) Via.refl e9 F_text (g := (mkF m 35 #[rv a1, iv p2, iv fd, iv gt, iv i, .unset] [(.ref a1)])) rfl rfl (hb hby d4_35)
            have pre20 : ∀ t, SS p e below m T19 40 #[rv a1, iv p2, iv fd, iv gt, iv i, .unset] [(.int i), (.ref b)] t → Steps p.tables e below (T0.setTop (mkF m 9 #[rv a1, iv p2, iv fd, iv gt, iv i, .unset] [])) t := fun t kk => pre18 t (by
              refine st19 _ ?_
              show SS p e below m T19 38 #[rv a1, iv p2, iv fd, iv gt, iv i, .unset] [(.ref b)] _
              refine XS.iload X19.here hx rfl (hb hby d4_38) rfl ?_
              show SS p e below m T19 40 #[rv a1, iv p2, iv fd, iv gt, iv i, .unset] [(.int i), (.ref b)] _
              exact kk)
            obtain ⟨cl21, Ar21, -, S21, -, H21, -⟩ := id V_b
            have hin21 : ¬ (i < 0 ∨ cl21.slots.size ≤ (i).toNatClampNeg) := inb_of S21 (own_in8 i (by
              have := own_lt hc3
              have := own_lt hc7
              have L0 : (0 : Int32).toInt = 0 := by decide
              have L1 : (1 : Int32).toInt = 1 := by decide
              have L2 : (2 : Int32).toInt = 2 := by decide
              have L8 : (8 : Int32).toInt = 8 := by decide
              omega))
            have hat21 : cl21.slots[(i).toNatClampNeg]? = some (.int (vs.getD (i).toNatClampNeg 0)) := by
              rw [H21 _ (Nat.lt_of_not_le fun q => hin21 (Or.inr q))]; exact congrArg some (own_getD vs _ 0)
            have pre22 : ∀ t, SS p e below m T19 43 #[rv a1, iv p2, iv fd, iv gt, iv i, .unset] [(.int (62 : Int32)), (.int (vs.getD (i).toNatClampNeg 0))] t → Steps p.tables e below (T0.setTop (mkF m 9 #[rv a1, iv p2, iv fd, iv gt, iv i, .unset] [])) t := fun t kk => pre20 t (by
              refine X19.caload hx (j := i) (v := (.int (vs.getD (i).toNatClampNeg 0))) (by rw [e19]; exact Ar21.1) (State.isArrayOf_alike hZ.alike Ar21.2.1) Ar21.2.2 hin21 hat21 (g := (mkF m 40 #[rv a1, iv p2, iv fd, iv gt, iv i, .unset] [(.int i), (.ref b)])) rfl rfl (hb hby d4_40) _ ?_
              show SS p e below m T19 41 #[rv a1, iv p2, iv fd, iv gt, iv i, .unset] [(.int (vs.getD (i).toNatClampNeg 0))] _
              refine XS.bipush X19.here hx rfl (hb hby d4_41) ?_
              show SS p e below m T19 43 #[rv a1, iv p2, iv fd, iv gt, iv i, .unset] [(.int (62 : Int32)), (.int (vs.getD (i).toNatClampNeg 0))] _
              exact kk)
            by_cases hc23 : (vs.getD (i).toNatClampNeg 0) = (62 : Int32)
            · have pre24 : ∀ t, SS p e below m T19 47 #[rv a1, iv p2, iv fd, iv gt, iv i, .unset] [(.ref a1)] t → Steps p.tables e below (T0.setTop (mkF m 9 #[rv a1, iv p2, iv fd, iv gt, iv i, .unset] [])) t := fun t kk => pre22 t (by
                refine XS.icmpNo X19.here hx rfl (hb hby d4_43) rfl (teq hc23).2 ?_
                show SS p e below m T19 46 #[rv a1, iv p2, iv fd, iv gt, iv i, .unset] [] _
                refine XS.aloadN X19.here hx rfl (hb hby d4_46) rfl rfl ?_
                show SS p e below m T19 47 #[rv a1, iv p2, iv fd, iv gt, iv i, .unset] [(.ref a1)] _
                exact kk)
              obtain ⟨T25, X25, e25, st25⟩ := getF X19 hx hZ hown (host := "") (Or.inl (hw _ (List.mem_of_getElem? (i := 17) rfl))) Via.refl e19 F_text (g := (mkF m 47 #[rv a1, iv p2, iv fd, iv gt, iv i, .unset] [(.ref a1)])) rfl rfl (hb hby d4_47)
              have pre26 : ∀ t, SS p e below m T25 54 #[rv a1, iv p2, iv fd, iv gt, iv i, .unset] [(.int (i - (1 : Int32))), (.ref b)] t → Steps p.tables e below (T0.setTop (mkF m 9 #[rv a1, iv p2, iv fd, iv gt, iv i, .unset] [])) t := fun t kk => pre24 t (by
                refine st25 _ ?_
                show SS p e below m T25 50 #[rv a1, iv p2, iv fd, iv gt, iv i, .unset] [(.ref b)] _
                refine XS.iload X25.here hx rfl (hb hby d4_50) rfl ?_
                show SS p e below m T25 52 #[rv a1, iv p2, iv fd, iv gt, iv i, .unset] [(.int i), (.ref b)] _
                refine XS.iconst X25.here hx rfl (hb hby d4_52) ?_
                show SS p e below m T25 53 #[rv a1, iv p2, iv fd, iv gt, iv i, .unset] [(.int (1 : Int32)), (.int i), (.ref b)] _
                refine XS.isub X25.here hx rfl (hb hby d4_53) rfl ?_
                show SS p e below m T25 54 #[rv a1, iv p2, iv fd, iv gt, iv i, .unset] [(.int (i - (1 : Int32))), (.ref b)] _
                exact kk)
              obtain ⟨cl27, Ar27, -, S27, -, H27, -⟩ := id V_b
              have hin27 : ¬ ((i - (1 : Int32)) < 0 ∨ cl27.slots.size ≤ ((i - (1 : Int32))).toNatClampNeg) := inb_of S27 (own_in8 (i - (1 : Int32)) (by
                have := own_lt hc3
                have := own_lt hc7
                have L0 : (0 : Int32).toInt = 0 := by decide
                have L1 : (1 : Int32).toInt = 1 := by decide
                have L2 : (2 : Int32).toInt = 2 := by decide
                have L8 : (8 : Int32).toInt = 8 := by decide
                have := own_sub1 i (by omega)
                omega))
              have hat27 : cl27.slots[((i - (1 : Int32))).toNatClampNeg]? = some (.int (vs.getD ((i - (1 : Int32))).toNatClampNeg 0)) := by
                rw [H27 _ (Nat.lt_of_not_le fun q => hin27 (Or.inr q))]; exact congrArg some (own_getD vs _ 0)
              have pre28 : ∀ t, SS p e below m T25 57 #[rv a1, iv p2, iv fd, iv gt, iv i, .unset] [(.int (63 : Int32)), (.int (vs.getD ((i - (1 : Int32))).toNatClampNeg 0))] t → Steps p.tables e below (T0.setTop (mkF m 9 #[rv a1, iv p2, iv fd, iv gt, iv i, .unset] [])) t := fun t kk => pre26 t (by
                refine X25.caload hx (j := (i - (1 : Int32))) (v := (.int (vs.getD ((i - (1 : Int32))).toNatClampNeg 0))) (by rw [e25]; exact Ar27.1) (State.isArrayOf_alike hZ.alike Ar27.2.1) Ar27.2.2 hin27 hat27 (g := (mkF m 54 #[rv a1, iv p2, iv fd, iv gt, iv i, .unset] [(.int (i - (1 : Int32))), (.ref b)])) rfl rfl (hb hby d4_54) _ ?_
                show SS p e below m T25 55 #[rv a1, iv p2, iv fd, iv gt, iv i, .unset] [(.int (vs.getD ((i - (1 : Int32))).toNatClampNeg 0))] _
                refine XS.bipush X25.here hx rfl (hb hby d4_55) ?_
                show SS p e below m T25 57 #[rv a1, iv p2, iv fd, iv gt, iv i, .unset] [(.int (63 : Int32)), (.int (vs.getD ((i - (1 : Int32))).toNatClampNeg 0))] _
                exact kk)
              by_cases hc29 : (vs.getD ((i - (1 : Int32))).toNatClampNeg 0) = (63 : Int32)
              · have pre30 : ∀ t, SS p e below m T25 9 #[rv a1, iv p2, iv (i + (1 : Int32)), iv gt, iv (i + (1 : Int32)), .unset] [] t → Steps p.tables e below (T0.setTop (mkF m 9 #[rv a1, iv p2, iv fd, iv gt, iv i, .unset] [])) t := fun t kk => pre28 t (by
                  refine XS.icmpNo X25.here hx rfl (hb hby d4_57) rfl (teq hc29).2 ?_
                  show SS p e below m T25 60 #[rv a1, iv p2, iv fd, iv gt, iv i, .unset] [] _
                  refine XS.iload X25.here hx rfl (hb hby d4_60) rfl ?_
                  show SS p e below m T25 62 #[rv a1, iv p2, iv fd, iv gt, iv i, .unset] [(.int i)] _
                  refine XS.iconst X25.here hx rfl (hb hby d4_62) ?_
                  show SS p e below m T25 63 #[rv a1, iv p2, iv fd, iv gt, iv i, .unset] [(.int (1 : Int32)), (.int i)] _
                  refine XS.iadd X25.here hx rfl (hb hby d4_63) rfl ?_
                  show SS p e below m T25 64 #[rv a1, iv p2, iv fd, iv gt, iv i, .unset] [(.int (i + (1 : Int32)))] _
                  refine XS.istoreN X25.here hx rfl (hb hby d4_64) rfl (l' := #[rv a1, iv p2, iv (i + (1 : Int32)), iv gt, iv i, .unset]) rfl ?_
                  show SS p e below m T25 65 #[rv a1, iv p2, iv (i + (1 : Int32)), iv gt, iv i, .unset] [] _
                  refine XS.goto X25.here hx rfl (pc0 := 65) (pc' := 89) rfl (hb hby d4_65) (by decide) (by decide) ?_
                  show SS p e below m T25 89 #[rv a1, iv p2, iv (i + (1 : Int32)), iv gt, iv i, .unset] [] _
                  refine XS.iinc X25.here hx rfl (hb hby d4_89) rfl (l' := #[rv a1, iv p2, iv (i + (1 : Int32)), iv gt, iv (i + (1 : Int32)), .unset]) rfl ?_
                  show SS p e below m T25 92 #[rv a1, iv p2, iv (i + (1 : Int32)), iv gt, iv (i + (1 : Int32)), .unset] [] _
                  refine XS.goto X25.here hx rfl (pc0 := 92) (pc' := 9) rfl (hb hby d4_92) (by decide) (by decide) ?_
                  show SS p e below m T25 9 #[rv a1, iv p2, iv (i + (1 : Int32)), iv gt, iv (i + (1 : Int32)), .unset] [] _
                  exact kk)
                obtain ⟨T', pcR, LsR, XR, eR, hdR, hkR⟩ := ih (i + (1 : Int32)) gt (i + (1 : Int32)) T25 X25 e25 (by
                  have := own_lt hc3
                  have := own_lt hc7
                  have L0 : (0 : Int32).toInt = 0 := by decide
                  have L1 : (1 : Int32).toInt = 1 := by decide
                  have L2 : (2 : Int32).toInt = 2 := by decide
                  have L8 : (8 : Int32).toInt = 8 := by decide
                  have := own_inc i (by omega)
                  omega)
                exact ⟨T', pcR, LsR, XR, eR, hdR, fun t kk => pre30 t (hkR t (by rw [show dl vs lm (k + 1) i gt fd = dl vs lm k (i + (1 : Int32)) gt (i + (1 : Int32)) from by rw [dl, if_pos hc3, if_pos hc7, if_neg hc13, if_pos hc23, if_pos hc29]] at kk; exact kk))⟩
              · have pre31 : ∀ t, SS p e below m T25 69 #[rv a1, iv p2, iv fd, iv gt, iv i, .unset] [(.ref a1)] t → Steps p.tables e below (T0.setTop (mkF m 9 #[rv a1, iv p2, iv fd, iv gt, iv i, .unset] [])) t := fun t kk => pre28 t (by
                  refine XS.icmpYes X25.here hx rfl (pc0 := 57) (pc' := 68) rfl (hb hby d4_57) rfl (feq hc29).2 (by decide) (by decide) ?_
                  show SS p e below m T25 68 #[rv a1, iv p2, iv fd, iv gt, iv i, .unset] [] _
                  refine XS.aloadN X25.here hx rfl (hb hby d4_68) rfl rfl ?_
                  show SS p e below m T25 69 #[rv a1, iv p2, iv fd, iv gt, iv i, .unset] [(.ref a1)] _
                  exact kk)
                obtain ⟨T32, X32, e32, st32⟩ := getF X25 hx hZ hown (host := "") (Or.inl (hw _ (List.mem_of_getElem? (i := 17) rfl))) Via.refl e25 F_text (g := (mkF m 69 #[rv a1, iv p2, iv fd, iv gt, iv i, .unset] [(.ref a1)])) rfl rfl (hb hby d4_69)
                have pre33 : ∀ t, SS p e below m T32 74 #[rv a1, iv p2, iv fd, iv gt, iv i, .unset] [(.int i), (.ref b)] t → Steps p.tables e below (T0.setTop (mkF m 9 #[rv a1, iv p2, iv fd, iv gt, iv i, .unset] [])) t := fun t kk => pre31 t (by
                  refine st32 _ ?_
                  show SS p e below m T32 72 #[rv a1, iv p2, iv fd, iv gt, iv i, .unset] [(.ref b)] _
                  refine XS.iload X32.here hx rfl (hb hby d4_72) rfl ?_
                  show SS p e below m T32 74 #[rv a1, iv p2, iv fd, iv gt, iv i, .unset] [(.int i), (.ref b)] _
                  exact kk)
                obtain ⟨cl34, Ar34, -, S34, -, H34, -⟩ := id V_b
                have hin34 : ¬ (i < 0 ∨ cl34.slots.size ≤ (i).toNatClampNeg) := inb_of S34 (own_in8 i (by
                  have := own_lt hc3
                  have := own_lt hc7
                  have L0 : (0 : Int32).toInt = 0 := by decide
                  have L1 : (1 : Int32).toInt = 1 := by decide
                  have L2 : (2 : Int32).toInt = 2 := by decide
                  have L8 : (8 : Int32).toInt = 8 := by decide
                  omega))
                have hat34 : cl34.slots[(i).toNatClampNeg]? = some (.int (vs.getD (i).toNatClampNeg 0)) := by
                  rw [H34 _ (Nat.lt_of_not_le fun q => hin34 (Or.inr q))]; exact congrArg some (own_getD vs _ 0)
                have pre35 : ∀ t, SS p e below m T32 81 #[rv a1, iv p2, iv fd, iv gt, iv i, .unset] [(.int gt)] t → Steps p.tables e below (T0.setTop (mkF m 9 #[rv a1, iv p2, iv fd, iv gt, iv i, .unset] [])) t := fun t kk => pre33 t (by
                  refine X32.caload hx (j := i) (v := (.int (vs.getD (i).toNatClampNeg 0))) (by rw [e32]; exact Ar34.1) (State.isArrayOf_alike hZ.alike Ar34.2.1) Ar34.2.2 hin34 hat34 (g := (mkF m 74 #[rv a1, iv p2, iv fd, iv gt, iv i, .unset] [(.int i), (.ref b)])) rfl rfl (hb hby d4_74) _ ?_
                  show SS p e below m T32 75 #[rv a1, iv p2, iv fd, iv gt, iv i, .unset] [(.int (vs.getD (i).toNatClampNeg 0))] _
                  refine XS.bipush X32.here hx rfl (hb hby d4_75) ?_
                  show SS p e below m T32 77 #[rv a1, iv p2, iv fd, iv gt, iv i, .unset] [(.int (62 : Int32)), (.int (vs.getD (i).toNatClampNeg 0))] _
                  refine XS.icmpNo X32.here hx rfl (hb hby d4_77) rfl (teq hc23).2 ?_
                  show SS p e below m T32 80 #[rv a1, iv p2, iv fd, iv gt, iv i, .unset] [] _
                  refine XS.iloadN X32.here hx rfl (hb hby d4_80) rfl ?_
                  show SS p e below m T32 81 #[rv a1, iv p2, iv fd, iv gt, iv i, .unset] [(.int gt)] _
                  exact kk)
                by_cases hc36 : gt < (0 : Int32)
                · have pre37 : ∀ t, SS p e below m T32 9 #[rv a1, iv p2, iv fd, iv (i + (1 : Int32)), iv (i + (1 : Int32)), .unset] [] t → Steps p.tables e below (T0.setTop (mkF m 9 #[rv a1, iv p2, iv fd, iv gt, iv i, .unset] [])) t := fun t kk => pre35 t (by
                    refine XS.ifNo X32.here hx rfl (hb hby d4_81) rfl ((if0 _ _).trans (tlt hc36).2.1) ?_
                    show SS p e below m T32 84 #[rv a1, iv p2, iv fd, iv gt, iv i, .unset] [] _
                    refine XS.iload X32.here hx rfl (hb hby d4_84) rfl ?_
                    show SS p e below m T32 86 #[rv a1, iv p2, iv fd, iv gt, iv i, .unset] [(.int i)] _
                    refine XS.iconst X32.here hx rfl (hb hby d4_86) ?_
                    show SS p e below m T32 87 #[rv a1, iv p2, iv fd, iv gt, iv i, .unset] [(.int (1 : Int32)), (.int i)] _
                    refine XS.iadd X32.here hx rfl (hb hby d4_87) rfl ?_
                    show SS p e below m T32 88 #[rv a1, iv p2, iv fd, iv gt, iv i, .unset] [(.int (i + (1 : Int32)))] _
                    refine XS.istoreN X32.here hx rfl (hb hby d4_88) rfl (l' := #[rv a1, iv p2, iv fd, iv (i + (1 : Int32)), iv i, .unset]) rfl ?_
                    show SS p e below m T32 89 #[rv a1, iv p2, iv fd, iv (i + (1 : Int32)), iv i, .unset] [] _
                    refine XS.iinc X32.here hx rfl (hb hby d4_89) rfl (l' := #[rv a1, iv p2, iv fd, iv (i + (1 : Int32)), iv (i + (1 : Int32)), .unset]) rfl ?_
                    show SS p e below m T32 92 #[rv a1, iv p2, iv fd, iv (i + (1 : Int32)), iv (i + (1 : Int32)), .unset] [] _
                    refine XS.goto X32.here hx rfl (pc0 := 92) (pc' := 9) rfl (hb hby d4_92) (by decide) (by decide) ?_
                    show SS p e below m T32 9 #[rv a1, iv p2, iv fd, iv (i + (1 : Int32)), iv (i + (1 : Int32)), .unset] [] _
                    exact kk)
                  obtain ⟨T', pcR, LsR, XR, eR, hdR, hkR⟩ := ih (i + (1 : Int32)) (i + (1 : Int32)) fd T32 X32 e32 (by
                    have := own_lt hc3
                    have := own_lt hc7
                    have := own_lt hc36
                    have L0 : (0 : Int32).toInt = 0 := by decide
                    have L1 : (1 : Int32).toInt = 1 := by decide
                    have L2 : (2 : Int32).toInt = 2 := by decide
                    have L8 : (8 : Int32).toInt = 8 := by decide
                    have := own_inc i (by omega)
                    omega)
                  exact ⟨T', pcR, LsR, XR, eR, hdR, fun t kk => pre37 t (hkR t (by rw [show dl vs lm (k + 1) i gt fd = dl vs lm k (i + (1 : Int32)) (i + (1 : Int32)) fd from by rw [dl, if_pos hc3, if_pos hc7, if_neg hc13, if_pos hc23, if_neg hc29, if_pos hc36]] at kk; exact kk))⟩
                · have pre38 : ∀ t, SS p e below m T32 9 #[rv a1, iv p2, iv fd, iv gt, iv (i + (1 : Int32)), .unset] [] t → Steps p.tables e below (T0.setTop (mkF m 9 #[rv a1, iv p2, iv fd, iv gt, iv i, .unset] [])) t := fun t kk => pre35 t (by
                    refine XS.ifYes X32.here hx rfl (pc0 := 81) (pc' := 89) rfl (hb hby d4_81) rfl ((if0 _ _).trans (flt hc36).2.1) (by decide) (by decide) ?_
                    show SS p e below m T32 89 #[rv a1, iv p2, iv fd, iv gt, iv i, .unset] [] _
                    refine XS.iinc X32.here hx rfl (hb hby d4_89) rfl (l' := #[rv a1, iv p2, iv fd, iv gt, iv (i + (1 : Int32)), .unset]) rfl ?_
                    show SS p e below m T32 92 #[rv a1, iv p2, iv fd, iv gt, iv (i + (1 : Int32)), .unset] [] _
                    refine XS.goto X32.here hx rfl (pc0 := 92) (pc' := 9) rfl (hb hby d4_92) (by decide) (by decide) ?_
                    show SS p e below m T32 9 #[rv a1, iv p2, iv fd, iv gt, iv (i + (1 : Int32)), .unset] [] _
                    exact kk)
                  obtain ⟨T', pcR, LsR, XR, eR, hdR, hkR⟩ := ih (i + (1 : Int32)) gt fd T32 X32 e32 (by
                    have := own_lt hc3
                    have := own_lt hc7
                    have := own_nl hc36
                    have L0 : (0 : Int32).toInt = 0 := by decide
                    have L1 : (1 : Int32).toInt = 1 := by decide
                    have L2 : (2 : Int32).toInt = 2 := by decide
                    have L8 : (8 : Int32).toInt = 8 := by decide
                    have := own_inc i (by omega)
                    omega)
                  exact ⟨T', pcR, LsR, XR, eR, hdR, fun t kk => pre38 t (hkR t (by rw [show dl vs lm (k + 1) i gt fd = dl vs lm k (i + (1 : Int32)) gt fd from by rw [dl, if_pos hc3, if_pos hc7, if_neg hc13, if_pos hc23, if_neg hc29, if_neg hc36]] at kk; exact kk))⟩
            · have pre39 : ∀ t, SS p e below m T19 69 #[rv a1, iv p2, iv fd, iv gt, iv i, .unset] [(.ref a1)] t → Steps p.tables e below (T0.setTop (mkF m 9 #[rv a1, iv p2, iv fd, iv gt, iv i, .unset] [])) t := fun t kk => pre22 t (by
                refine XS.icmpYes X19.here hx rfl (pc0 := 43) (pc' := 68) rfl (hb hby d4_43) rfl (feq hc23).2 (by decide) (by decide) ?_
                show SS p e below m T19 68 #[rv a1, iv p2, iv fd, iv gt, iv i, .unset] [] _
                refine XS.aloadN X19.here hx rfl (hb hby d4_68) rfl rfl ?_
                show SS p e below m T19 69 #[rv a1, iv p2, iv fd, iv gt, iv i, .unset] [(.ref a1)] _
                exact kk)
              obtain ⟨T40, X40, e40, st40⟩ := getF X19 hx hZ hown (host := "") (Or.inl (hw _ (List.mem_of_getElem? (i := 17) rfl))) Via.refl e19 F_text (g := (mkF m 69 #[rv a1, iv p2, iv fd, iv gt, iv i, .unset] [(.ref a1)])) rfl rfl (hb hby d4_69)
              have pre41 : ∀ t, SS p e below m T40 74 #[rv a1, iv p2, iv fd, iv gt, iv i, .unset] [(.int i), (.ref b)] t → Steps p.tables e below (T0.setTop (mkF m 9 #[rv a1, iv p2, iv fd, iv gt, iv i, .unset] [])) t := fun t kk => pre39 t (by
                refine st40 _ ?_
                show SS p e below m T40 72 #[rv a1, iv p2, iv fd, iv gt, iv i, .unset] [(.ref b)] _
                refine XS.iload X40.here hx rfl (hb hby d4_72) rfl ?_
                show SS p e below m T40 74 #[rv a1, iv p2, iv fd, iv gt, iv i, .unset] [(.int i), (.ref b)] _
                exact kk)
              obtain ⟨cl42, Ar42, -, S42, -, H42, -⟩ := id V_b
              have hin42 : ¬ (i < 0 ∨ cl42.slots.size ≤ (i).toNatClampNeg) := inb_of S42 (own_in8 i (by
                have := own_lt hc3
                have := own_lt hc7
                have L0 : (0 : Int32).toInt = 0 := by decide
                have L1 : (1 : Int32).toInt = 1 := by decide
                have L2 : (2 : Int32).toInt = 2 := by decide
                have L8 : (8 : Int32).toInt = 8 := by decide
                omega))
              have hat42 : cl42.slots[(i).toNatClampNeg]? = some (.int (vs.getD (i).toNatClampNeg 0)) := by
                rw [H42 _ (Nat.lt_of_not_le fun q => hin42 (Or.inr q))]; exact congrArg some (own_getD vs _ 0)
              have pre43 : ∀ t, SS p e below m T40 9 #[rv a1, iv p2, iv fd, iv gt, iv (i + (1 : Int32)), .unset] [] t → Steps p.tables e below (T0.setTop (mkF m 9 #[rv a1, iv p2, iv fd, iv gt, iv i, .unset] [])) t := fun t kk => pre41 t (by
                refine X40.caload hx (j := i) (v := (.int (vs.getD (i).toNatClampNeg 0))) (by rw [e40]; exact Ar42.1) (State.isArrayOf_alike hZ.alike Ar42.2.1) Ar42.2.2 hin42 hat42 (g := (mkF m 74 #[rv a1, iv p2, iv fd, iv gt, iv i, .unset] [(.int i), (.ref b)])) rfl rfl (hb hby d4_74) _ ?_
                show SS p e below m T40 75 #[rv a1, iv p2, iv fd, iv gt, iv i, .unset] [(.int (vs.getD (i).toNatClampNeg 0))] _
                refine XS.bipush X40.here hx rfl (hb hby d4_75) ?_
                show SS p e below m T40 77 #[rv a1, iv p2, iv fd, iv gt, iv i, .unset] [(.int (62 : Int32)), (.int (vs.getD (i).toNatClampNeg 0))] _
                refine XS.icmpYes X40.here hx rfl (pc0 := 77) (pc' := 89) rfl (hb hby d4_77) rfl (feq hc23).2 (by decide) (by decide) ?_
                show SS p e below m T40 89 #[rv a1, iv p2, iv fd, iv gt, iv i, .unset] [] _
                refine XS.iinc X40.here hx rfl (hb hby d4_89) rfl (l' := #[rv a1, iv p2, iv fd, iv gt, iv (i + (1 : Int32)), .unset]) rfl ?_
                show SS p e below m T40 92 #[rv a1, iv p2, iv fd, iv gt, iv (i + (1 : Int32)), .unset] [] _
                refine XS.goto X40.here hx rfl (pc0 := 92) (pc' := 9) rfl (hb hby d4_92) (by decide) (by decide) ?_
                show SS p e below m T40 9 #[rv a1, iv p2, iv fd, iv gt, iv (i + (1 : Int32)), .unset] [] _
                exact kk)
              obtain ⟨T', pcR, LsR, XR, eR, hdR, hkR⟩ := ih (i + (1 : Int32)) gt fd T40 X40 e40 (by
                have := own_lt hc3
                have := own_lt hc7
                have L0 : (0 : Int32).toInt = 0 := by decide
                have L1 : (1 : Int32).toInt = 1 := by decide
                have L2 : (2 : Int32).toInt = 2 := by decide
                have L8 : (8 : Int32).toInt = 8 := by decide
                have := own_inc i (by omega)
                omega)
              exact ⟨T', pcR, LsR, XR, eR, hdR, fun t kk => pre43 t (hkR t (by rw [show dl vs lm (k + 1) i gt fd = dl vs lm k (i + (1 : Int32)) gt fd from by rw [dl, if_pos hc3, if_pos hc7, if_neg hc13, if_neg hc23]] at kk; exact kk))⟩
        · have pre44 : ∀ t, SS p e below m T5 106 #[rv a1, iv p2, iv fd, iv gt, iv i, .unset] [(.int gt)] t → Steps p.tables e below (T0.setTop (mkF m 9 #[rv a1, iv p2, iv fd, iv gt, iv i, .unset] [])) t := fun t kk => pre6 t (by
            refine XS.icmpYes X5.here hx rfl (pc0 := 19) (pc' := 95) rfl (hb hby d4_19) rfl (flt hc7).2.1 (by decide) (by decide) ?_
            show SS p e below m T5 95 #[rv a1, iv p2, iv fd, iv gt, iv i, .unset] [] _
            refine XS.iloadN X5.here hx rfl (hb hby d4_95) rfl ?_
            show SS p e below m T5 96 #[rv a1, iv p2, iv fd, iv gt, iv i, .unset] [(.int fd)] _
            refine XS.ifYes X5.here hx rfl (pc0 := 96) (pc' := 105) rfl (hb hby d4_96) rfl ((if0 _ _).trans (tlt hc3).1) (by decide) (by decide) ?_
            show SS p e below m T5 105 #[rv a1, iv p2, iv fd, iv gt, iv i, .unset] [] _
            refine XS.iloadN X5.here hx rfl (hb hby d4_105) rfl ?_
            show SS p e below m T5 106 #[rv a1, iv p2, iv fd, iv gt, iv i, .unset] [(.int gt)] _
            exact kk)
          by_cases hc45 : gt < (0 : Int32)
          · have pre46 : ∀ t, SS p e below m T5 121 #[rv a1, iv p2, iv fd, iv gt, iv i, iv i] [(.int i)] t → Steps p.tables e below (T0.setTop (mkF m 9 #[rv a1, iv p2, iv fd, iv gt, iv i, .unset] [])) t := fun t kk => pre44 t (by
              refine XS.ifYes X5.here hx rfl (pc0 := 106) (pc' := 115) rfl (hb hby d4_106) rfl ((if0 _ _).trans (tlt hc45).1) (by decide) (by decide) ?_
              show SS p e below m T5 115 #[rv a1, iv p2, iv fd, iv gt, iv i, .unset] [] _
              refine XS.iload X5.here hx rfl (hb hby d4_115) rfl ?_
              show SS p e below m T5 117 #[rv a1, iv p2, iv fd, iv gt, iv i, .unset] [(.int i)] _
              refine XS.istore X5.here hx rfl (hb hby d4_117) rfl (l' := #[rv a1, iv p2, iv fd, iv gt, iv i, iv i]) rfl ?_
              show SS p e below m T5 119 #[rv a1, iv p2, iv fd, iv gt, iv i, iv i] [] _
              refine XS.iload X5.here hx rfl (hb hby d4_119) rfl ?_
              show SS p e below m T5 121 #[rv a1, iv p2, iv fd, iv gt, iv i, iv i] [(.int i)] _
              exact kk)
            exact ⟨T5, 121, _, X5, e5, (hb hby d4_121), fun t kk => pre46 t (by rw [show dl vs lm (k + 1) i gt fd = i from by rw [dl, if_pos hc3, if_neg hc7, if_pos hc45]] at kk; exact kk)⟩
          · have pre47 : ∀ t, SS p e below m T5 121 #[rv a1, iv p2, iv fd, iv gt, iv i, iv gt] [(.int gt)] t → Steps p.tables e below (T0.setTop (mkF m 9 #[rv a1, iv p2, iv fd, iv gt, iv i, .unset] [])) t := fun t kk => pre44 t (by
              refine XS.ifNo X5.here hx rfl (hb hby d4_106) rfl ((if0 _ _).trans (flt hc45).1) ?_
              show SS p e below m T5 109 #[rv a1, iv p2, iv fd, iv gt, iv i, .unset] [] _
              refine XS.iloadN X5.here hx rfl (hb hby d4_109) rfl ?_
              show SS p e below m T5 110 #[rv a1, iv p2, iv fd, iv gt, iv i, .unset] [(.int gt)] _
              refine XS.istore X5.here hx rfl (hb hby d4_110) rfl (l' := #[rv a1, iv p2, iv fd, iv gt, iv i, iv gt]) rfl ?_
              show SS p e below m T5 112 #[rv a1, iv p2, iv fd, iv gt, iv i, iv gt] [] _
              refine XS.goto X5.here hx rfl (pc0 := 112) (pc' := 119) rfl (hb hby d4_112) (by decide) (by decide) ?_
              show SS p e below m T5 119 #[rv a1, iv p2, iv fd, iv gt, iv i, iv gt] [] _
              refine XS.iload X5.here hx rfl (hb hby d4_119) rfl ?_
              show SS p e below m T5 121 #[rv a1, iv p2, iv fd, iv gt, iv i, iv gt] [(.int gt)] _
              exact kk)
            exact ⟨T5, 121, _, X5, e5, (hb hby d4_121), fun t kk => pre47 t (by rw [show dl vs lm (k + 1) i gt fd = gt from by rw [dl, if_pos hc3, if_neg hc7, if_neg hc45]] at kk; exact kk)⟩
      · have pre48 : ∀ t, SS p e below m T0 121 #[rv a1, iv p2, iv fd, iv gt, iv i, iv fd] [(.int fd)] t → Steps p.tables e below (T0.setTop (mkF m 9 #[rv a1, iv p2, iv fd, iv gt, iv i, .unset] [])) t := fun t kk => pre2 t (by
          refine XS.ifYes X0.here hx rfl (pc0 := 10) (pc' := 95) rfl (hb hby d4_10) rfl ((if0 _ _).trans (flt hc3).2.1) (by decide) (by decide) ?_
          show SS p e below m T0 95 #[rv a1, iv p2, iv fd, iv gt, iv i, .unset] [] _
          refine XS.iloadN X0.here hx rfl (hb hby d4_95) rfl ?_
          show SS p e below m T0 96 #[rv a1, iv p2, iv fd, iv gt, iv i, .unset] [(.int fd)] _
          refine XS.ifNo X0.here hx rfl (hb hby d4_96) rfl ((if0 _ _).trans (flt hc3).1) ?_
          show SS p e below m T0 99 #[rv a1, iv p2, iv fd, iv gt, iv i, .unset] [] _
          refine XS.iloadN X0.here hx rfl (hb hby d4_99) rfl ?_
          show SS p e below m T0 100 #[rv a1, iv p2, iv fd, iv gt, iv i, .unset] [(.int fd)] _
          refine XS.istore X0.here hx rfl (hb hby d4_100) rfl (l' := #[rv a1, iv p2, iv fd, iv gt, iv i, iv fd]) rfl ?_
          show SS p e below m T0 102 #[rv a1, iv p2, iv fd, iv gt, iv i, iv fd] [] _
          refine XS.goto X0.here hx rfl (pc0 := 102) (pc' := 119) rfl (hb hby d4_102) (by decide) (by decide) ?_
          show SS p e below m T0 119 #[rv a1, iv p2, iv fd, iv gt, iv i, iv fd] [] _
          refine XS.iload X0.here hx rfl (hb hby d4_119) rfl ?_
          show SS p e below m T0 121 #[rv a1, iv p2, iv fd, iv gt, iv i, iv fd] [(.int fd)] _
          exact kk)
        exact ⟨T0, 121, _, X0, e0, (hb hby d4_121), fun t kk => pre48 t (by rw [show dl vs lm (k + 1) i gt fd = fd from by rw [dl, if_neg hc3]] at kk; exact kk)⟩
  obtain ⟨T', pcR, LsR, XR, eR, hdR, hkR⟩ := loop (10 - (p2 + (2 : Int32)).toNatClampNeg) (p2 + (2 : Int32)) (-1 : Int32) (-1 : Int32) s₁ X0 e0 (by
    have q : (p2 + (2 : Int32)).toNatClampNeg = (p2 + (2 : Int32)).toInt.toNat := rfl
    omega)
  obtain ⟨fs, hr, hrun, hended, hW, hsame⟩ := XR.leave (v := some (.int (dl vs lm (10 - (p2 + (2 : Int32)).toNatClampNeg) (p2 + (2 : Int32)) (-1 : Int32) (-1 : Int32)))) (fun h => by rw [Bd.returns] at h; cases h)
  refine ⟨_, _, hB _ (pre1 _ (hkR _ ?_)), hrun, hended, _, _, rfl, ?_, ⟨_, rfl⟩, hW, hsame.mono (by decide) (by decide)⟩
  · exact retI XR hx Bd.returns hdR hr
  · exact ⟨rfl, N0, eR⟩
theorem own_n8 (j : Int32) (h : 0 ≤ j.toInt ∧ j.toInt < 8) : j.toNatClampNeg < 8 := by
  have q : j.toNatClampNeg = j.toInt.toNat := rfl
  omega
theorem own_hit (k fr lm ch : Int32) (vs : List Int32) : (f6 k fr lm ch vs = (0 : Int32)) ↔ (k.toInt < fr.toInt ∨ lm.toInt ≤ k.toInt ∨ ¬ (vs.getD (k).toNatClampNeg 0) = ch) := by
  unfold f6
  by_cases c1 : k < fr
  · rw [if_pos c1]; exact ⟨fun _ => Or.inl (own_lt c1), fun _ => rfl⟩
  · rw [if_neg c1]
    have d1 := own_nl c1
    by_cases c2 : k < lm
    · rw [if_pos c2]
      have d2 := own_lt c2
      by_cases c3 : (vs.getD (k).toNatClampNeg 0) = ch
      · rw [if_pos c3]
        refine ⟨fun q => absurd q (by decide), fun q => ?_⟩
        rcases q with q | q | q
        · omega
        · omega
        · exact absurd c3 q
      · rw [if_neg c3]; exact ⟨fun _ => Or.inr (Or.inr c3), fun _ => rfl⟩
    · rw [if_neg c2]; exact ⟨fun _ => Or.inr (Or.inl (own_nl c2)), fun _ => rfl⟩
theorem own_cl (k fr lm : Int32) (vs : List Int32) : (f8 k fr lm vs = (0 : Int32)) ↔ (k.toInt < fr.toInt ∨ lm.toInt ≤ k.toInt ∨ ¬ ((vs.getD (k).toNatClampNeg 0) = (62 : Int32) ∧ (vs.getD ((k - (1 : Int32))).toNatClampNeg 0) = (63 : Int32))) := by
  unfold f8
  by_cases c1 : k < fr
  · rw [if_pos c1]; exact ⟨fun _ => Or.inl (own_lt c1), fun _ => rfl⟩
  · rw [if_neg c1]
    have d1 := own_nl c1
    by_cases c2 : k < lm
    · rw [if_pos c2]
      have d2 := own_lt c2
      by_cases c3 : (vs.getD (k).toNatClampNeg 0) = (62 : Int32)
      · rw [if_pos c3]
        by_cases c4 : (vs.getD ((k - (1 : Int32))).toNatClampNeg 0) = (63 : Int32)
        · rw [if_pos c4]
          refine ⟨fun q => absurd q (by decide), fun q => ?_⟩
          rcases q with q | q | q
          · omega
          · omega
          · exact absurd ⟨c3, c4⟩ q
        · rw [if_neg c4]; exact ⟨fun _ => Or.inr (Or.inr fun q => c4 q.2), fun _ => rfl⟩
      · rw [if_neg c3]; exact ⟨fun _ => Or.inr (Or.inr fun q => c3 q.1), fun _ => rfl⟩
    · rw [if_neg c2]; exact ⟨fun _ => Or.inr (Or.inl (own_nl c2)), fun _ => rfl⟩
def own_ok (vs : List Int32) (fr lm ch : Int32) (n : Int) (r : Int32) : Prop := fr.toInt ≤ r.toInt ∧ r.toInt ≤ lm.toInt ∧ (∀ j : Int32, fr.toInt ≤ j.toInt → n ≤ j.toInt → j.toInt < r.toInt → ¬ (vs.getD (j).toNatClampNeg 0) = ch) ∧ (r.toInt < lm.toInt → (vs.getD (r).toNatClampNeg 0) = ch)
theorem own_fis {vs : List Int32} {fr lm ch : Int32} (K : Int32) (n : Int) (hK : K.toInt = n) {r : Int32} (h : own_ok vs fr lm ch (n + 1) r) : own_ok vs fr lm ch n (if f6 K fr lm ch vs = (0 : Int32) then r else K) := by
  by_cases c : f6 K fr lm ch vs = (0 : Int32)
  · rw [if_pos c]
    obtain ⟨h1, h2, h3, h4⟩ := h
    refine ⟨h1, h2, fun j a b d => ?_, h4⟩
    by_cases e : n + 1 ≤ j.toInt
    · exact h3 j a e d
    · have q : j = K := Int32.toInt_inj.1 (by omega)
      subst q
      rcases (own_hit j fr lm ch vs).mp c with q | q | q
      · omega
      · omega
      · exact q
  · rw [if_neg c]
    have q := mt (own_hit K fr lm ch vs).mpr c
    have q1 : ¬ K.toInt < fr.toInt := fun z => q (Or.inl z)
    have q2 : ¬ lm.toInt ≤ K.toInt := fun z => q (Or.inr (Or.inl z))
    have q3 : (vs.getD (K).toNatClampNeg 0) = ch := Classical.byContradiction fun z => q (Or.inr (Or.inr z))
    exact ⟨by omega, by omega, fun j a b d => by omega, fun _ => q3⟩
theorem own_fi (vs : List Int32) (fr lm ch : Int32) (h2 : 2 ≤ fr.toInt) (h8 : lm.toInt ≤ 8) (hle : fr.toInt ≤ lm.toInt) :
    fr.toInt ≤ (f5 fr lm ch vs).toInt ∧ (f5 fr lm ch vs).toInt ≤ 8 ∧ (f5 fr lm ch vs).toInt ≤ lm.toInt ∧ (∀ j : Int32, fr.toInt ≤ j.toInt → j.toInt < (f5 fr lm ch vs).toInt → ¬ (vs.getD (j).toNatClampNeg 0) = ch) ∧ ((f5 fr lm ch vs).toInt < lm.toInt → (vs.getD (f5 fr lm ch vs).toNatClampNeg 0) = ch) := by
  have s8 : own_ok vs fr lm ch (7 + 1) lm := ⟨hle, Int.le_refl _, fun j a b d => by omega, fun z => by omega⟩
  have s7 : own_ok vs fr lm ch (6 + 1) _ := own_fis (7 : Int32) 7 (by decide) s8
  have s6 : own_ok vs fr lm ch (5 + 1) _ := own_fis (6 : Int32) 6 (by decide) s7
  have s5 : own_ok vs fr lm ch (4 + 1) _ := own_fis (5 : Int32) 5 (by decide) s6
  have s4 : own_ok vs fr lm ch (3 + 1) _ := own_fis (4 : Int32) 4 (by decide) s5
  have s3 : own_ok vs fr lm ch (2 + 1) _ := own_fis (3 : Int32) 3 (by decide) s4
  have s2 : own_ok vs fr lm ch 2 (f5 fr lm ch vs) := own_fis (2 : Int32) 2 (by decide) s3
  obtain ⟨h1, h3, h4, h5⟩ := s2
  exact ⟨h1, by omega, h3, fun j a d => h4 j a (by omega) d, h5⟩
def own_okc (vs : List Int32) (fr lm : Int32) (n : Int) (r : Int32) : Prop :=
  (r.toInt = -1 ∧ ∀ j : Int32, fr.toInt ≤ j.toInt → n ≤ j.toInt → j.toInt < lm.toInt → ¬ ((vs.getD (j).toNatClampNeg 0) = (62 : Int32) ∧ (vs.getD ((j - (1 : Int32))).toNatClampNeg 0) = (63 : Int32))) ∨
  (fr.toInt ≤ r.toInt ∧ r.toInt < lm.toInt ∧ ((vs.getD (r).toNatClampNeg 0) = (62 : Int32) ∧ (vs.getD ((r - (1 : Int32))).toNatClampNeg 0) = (63 : Int32)) ∧ ∀ j : Int32, fr.toInt ≤ j.toInt → n ≤ j.toInt → j.toInt < r.toInt → ¬ ((vs.getD (j).toNatClampNeg 0) = (62 : Int32) ∧ (vs.getD ((j - (1 : Int32))).toNatClampNeg 0) = (63 : Int32)))
theorem own_fcs {vs : List Int32} {fr lm : Int32} (K : Int32) (n : Int) (hK : K.toInt = n) {r : Int32} (h : own_okc vs fr lm (n + 1) r) : own_okc vs fr lm n (if f8 K fr lm vs = (0 : Int32) then r else K) := by
  by_cases c : f8 K fr lm vs = (0 : Int32)
  · rw [if_pos c]
    have key : ∀ j : Int32, j.toInt = n → fr.toInt ≤ j.toInt → j.toInt < lm.toInt → ¬ ((vs.getD (j).toNatClampNeg 0) = (62 : Int32) ∧ (vs.getD ((j - (1 : Int32))).toNatClampNeg 0) = (63 : Int32)) := fun j e a d => by
      have q : j = K := Int32.toInt_inj.1 (by omega)
      subst q
      rcases (own_cl j fr lm vs).mp c with q | q | q
      · omega
      · omega
      · exact q
    rcases h with ⟨h1, h2⟩ | ⟨h1, h2, h3, h4⟩
    · refine Or.inl ⟨h1, fun j a b d => ?_⟩
      by_cases e : n + 1 ≤ j.toInt
      · exact h2 j a e d
      · exact key j (by omega) a d
    · refine Or.inr ⟨h1, h2, h3, fun j a b d => ?_⟩
      by_cases e : n + 1 ≤ j.toInt
      · exact h4 j a e d
      · exact key j (by omega) a (by omega)
  · rw [if_neg c]
    have q := mt (own_cl K fr lm vs).mpr c
    have q1 : ¬ K.toInt < fr.toInt := fun z => q (Or.inl z)
    have q2 : ¬ lm.toInt ≤ K.toInt := fun z => q (Or.inr (Or.inl z))
    have q3 := Classical.byContradiction fun z => q (Or.inr (Or.inr z))
    exact Or.inr ⟨by omega, by omega, q3, fun j a b d => by omega⟩
theorem own_fc (vs : List Int32) (fr lm : Int32) (h2 : 2 ≤ fr.toInt) (h8 : lm.toInt ≤ 8) : own_okc vs fr lm 2 (f7 fr lm vs) := by
  have s8 : own_okc vs fr lm (7 + 1) (-1 : Int32) := Or.inl ⟨by decide, fun j a b d => by omega⟩
  have s7 : own_okc vs fr lm (6 + 1) _ := own_fcs (7 : Int32) 7 (by decide) s8
  have s6 : own_okc vs fr lm (5 + 1) _ := own_fcs (6 : Int32) 6 (by decide) s7
  have s5 : own_okc vs fr lm (4 + 1) _ := own_fcs (5 : Int32) 5 (by decide) s6
  have s4 : own_okc vs fr lm (3 + 1) _ := own_fcs (4 : Int32) 4 (by decide) s5
  have s3 : own_okc vs fr lm (2 + 1) _ := own_fcs (3 : Int32) 3 (by decide) s4
  exact own_fcs (2 : Int32) 2 (by decide) s3
theorem own_loop (vs : List Int32) (fr lm sp cl gg : Int32) (h2 : 2 ≤ fr.toInt)
    (hsp : fr.toInt ≤ sp.toInt ∧ sp.toInt ≤ 8 ∧ sp.toInt ≤ lm.toInt ∧ (∀ j : Int32, fr.toInt ≤ j.toInt → j.toInt < sp.toInt → ¬ (vs.getD (j).toNatClampNeg 0) = (60 : Int32)) ∧ (sp.toInt < lm.toInt → (vs.getD (sp).toNatClampNeg 0) = (60 : Int32)))
    (hcl : own_okc vs fr sp 2 cl)
    (hgg : fr.toInt ≤ gg.toInt ∧ gg.toInt ≤ 8 ∧ gg.toInt ≤ sp.toInt ∧ (∀ j : Int32, fr.toInt ≤ j.toInt → j.toInt < gg.toInt → ¬ (vs.getD (j).toNatClampNeg 0) = (62 : Int32)) ∧ (gg.toInt < sp.toInt → (vs.getD (gg).toNatClampNeg 0) = (62 : Int32))) :
    ∀ (k : Nat) (i gt : Int32), fr.toInt ≤ i.toInt → i.toInt ≤ sp.toInt → i.toInt + k = 10 →
      (∀ j : Int32, fr.toInt ≤ j.toInt → j.toInt < i.toInt → ¬ ((vs.getD (j).toNatClampNeg 0) = (62 : Int32) ∧ (vs.getD ((j - (1 : Int32))).toNatClampNeg 0) = (63 : Int32))) →
      ((gt.toInt = -1 ∧ ∀ j : Int32, fr.toInt ≤ j.toInt → j.toInt < i.toInt → ¬ (vs.getD (j).toNatClampNeg 0) = (62 : Int32)) ∨ (gt.toInt = gg.toInt + 1 ∧ gg.toInt < i.toInt)) →
      dl vs lm k i gt (-1 : Int32) = if cl < (0 : Int32) then (if gg < sp then gg + (1 : Int32) else sp) else cl + (1 : Int32) := by
  have L0 : (0 : Int32).toInt = 0 := by decide
  obtain ⟨p1, p2, p3, p4, p5⟩ := hsp
  obtain ⟨g1, g2, g3, g4, g5⟩ := hgg
  have ig := own_inc gg (by omega)
  intro k
  induction k with
  | zero => intro i gt a b d _ _; omega
  | succ k ih =>
    intro i gt a b d hno hgt
    have ii := own_inc i (by omega)
    have noS : (∀ j : Int32, fr.toInt ≤ j.toInt → j.toInt < i.toInt → ¬ ((vs.getD (j).toNatClampNeg 0) = (62 : Int32) ∧ (vs.getD ((j - (1 : Int32))).toNatClampNeg 0) = (63 : Int32))) → ¬ ((vs.getD (i).toNatClampNeg 0) = (62 : Int32) ∧ (vs.getD ((i - (1 : Int32))).toNatClampNeg 0) = (63 : Int32)) → (∀ j : Int32, fr.toInt ≤ j.toInt → j.toInt < (i + (1 : Int32)).toInt → ¬ ((vs.getD (j).toNatClampNeg 0) = (62 : Int32) ∧ (vs.getD ((j - (1 : Int32))).toNatClampNeg 0) = (63 : Int32))) := fun u v j x y => by
      by_cases z : j.toInt < i.toInt
      · exact u j x z
      · have q : j = i := Int32.toInt_inj.1 (by omega)
        rw [q]; exact v
    rw [dl, if_pos (by decide : (-1 : Int32) < (0 : Int32))]
    by_cases ei : i.toInt < sp.toInt
    · rw [if_pos (Int32.lt_iff_toInt_lt.mpr (by omega)), if_neg (p4 i a ei)]
      by_cases c62 : (vs.getD (i).toNatClampNeg 0) = (62 : Int32)
      · rw [if_pos c62]
        by_cases c63 : (vs.getD ((i - (1 : Int32))).toNatClampNeg 0) = (63 : Int32)
        · rw [if_pos c63]
          obtain ⟨k', rfl⟩ : ∃ k', k = k' + 1 := ⟨k - 1, by omega⟩
          rw [dl, if_neg (by rw [Int32.lt_iff_toInt_lt]; omega)]
          have q : cl = i := by
            rcases hcl with ⟨q1, q2⟩ | ⟨q1, q2, q3, q4⟩
            · exact absurd ⟨c62, c63⟩ (q2 i a (by omega) ei)
            · by_cases z : cl.toInt < i.toInt
              · exact absurd q3 (hno cl q1 z)
              · by_cases z' : i.toInt < cl.toInt
                · exact absurd ⟨c62, c63⟩ (q4 i a (by omega) z')
                · exact Int32.toInt_inj.1 (by omega)
          rw [q, if_neg (by rw [Int32.lt_iff_toInt_lt]; omega)]
        · rw [if_neg c63]
          by_cases cg : gt < (0 : Int32)
          · have cg' := own_lt cg
            rw [if_pos cg]
            refine ih _ _ (by omega) (by omega) (by omega) (noS hno fun q => c63 q.2) (Or.inr ?_)
            rcases hgt with ⟨q1, q2⟩ | ⟨q1, q2⟩
            · have z1 : ¬ gg.toInt < i.toInt := fun z => q2 gg g1 z (g5 (by omega))
              have z2 : ¬ i.toInt < gg.toInt := fun z => g4 i a z c62
              omega
            · omega
          · have cg' := own_nl cg
            rw [if_neg cg]
            refine ih _ _ (by omega) (by omega) (by omega) (noS hno fun q => c63 q.2) (Or.inr ?_)
            rcases hgt with ⟨q1, q2⟩ | ⟨q1, q2⟩
            · omega
            · omega
      · rw [if_neg c62]
        refine ih _ _ (by omega) (by omega) (by omega) (noS hno fun q => c62 q.1) ?_
        rcases hgt with ⟨q1, q2⟩ | ⟨q1, q2⟩
        · refine Or.inl ⟨q1, fun j x y => ?_⟩
          by_cases z : j.toInt < i.toInt
          · exact q2 j x z
          · have q : j = i := Int32.toInt_inj.1 (by omega)
            rw [q]; exact c62
        · exact Or.inr ⟨q1, by omega⟩
    · have es : i = sp := Int32.toInt_inj.1 (by omega)
      have ec : cl < (0 : Int32) := by
        rcases hcl with ⟨q1, q2⟩ | ⟨q1, q2, q3, q4⟩
        · rw [Int32.lt_iff_toInt_lt]; omega
        · exact absurd q3 (hno cl q1 (by omega))
      have fin : (if gt < (0 : Int32) then i else gt) = if cl < (0 : Int32) then (if gg < sp then gg + (1 : Int32) else sp) else cl + (1 : Int32) := by
        rw [if_pos ec]
        rcases hgt with ⟨q1, q2⟩ | ⟨q1, q2⟩
        · have z : ¬ gg < sp := fun z => q2 gg g1 (by have := own_lt z; omega) (g5 (own_lt z))
          rw [if_neg z, if_pos (by rw [Int32.lt_iff_toInt_lt]; omega)]
          exact es
        · rw [if_pos (Int32.lt_iff_toInt_lt.mpr (by omega) : gg < sp), if_neg (by rw [Int32.lt_iff_toInt_lt]; omega)]
          exact Int32.toInt_inj.1 (by omega)
      by_cases il : i < lm
      · have il' := own_lt il
        have g60 : (vs.getD (i).toNatClampNeg 0) = (60 : Int32) := by rw [es]; exact p5 (by rw [← es]; exact il')
        rw [if_pos il, if_pos g60]
        exact fin
      · rw [if_neg il]
        exact fin
theorem own_de (vs : List Int32) (fr lm sp cl gg sa : Int32) (h2 : 2 ≤ fr.toInt) (h8 : lm.toInt ≤ 8) (hle : fr.toInt ≤ lm.toInt) (hfr : fr = sa + (2 : Int32))
    (hsp : fr.toInt ≤ sp.toInt ∧ sp.toInt ≤ 8 ∧ sp.toInt ≤ lm.toInt ∧ (∀ j : Int32, fr.toInt ≤ j.toInt → j.toInt < sp.toInt → ¬ (vs.getD (j).toNatClampNeg 0) = (60 : Int32)) ∧ (sp.toInt < lm.toInt → (vs.getD (sp).toNatClampNeg 0) = (60 : Int32)))
    (hcl : own_okc vs fr sp 2 cl)
    (hgg : fr.toInt ≤ gg.toInt ∧ gg.toInt ≤ 8 ∧ gg.toInt ≤ sp.toInt ∧ (∀ j : Int32, fr.toInt ≤ j.toInt → j.toInt < gg.toInt → ¬ (vs.getD (j).toNatClampNeg 0) = (62 : Int32)) ∧ (gg.toInt < sp.toInt → (vs.getD (gg).toNatClampNeg 0) = (62 : Int32))) :
    f4 sa lm vs = if cl < (0 : Int32) then (if gg < sp then gg + (1 : Int32) else sp) else cl + (1 : Int32) := by
  unfold f4
  rw [← hfr]
  have q : fr.toNatClampNeg = fr.toInt.toNat := rfl
  exact own_loop vs fr lm sp cl gg h2 hsp hcl hgg _ _ _ (Int.le_refl _) hsp.1 (by omega) (fun j a b => by omega) (Or.inl ⟨by decide, fun j a b => by omega⟩)

theorem pn_0 : plainName "com/example/mendmark/mendmark/core/ScannerDeclarationEndPinLaw" = true := by first | (simp [plainName, overriddenIn]; done) | decide +kernel
theorem pd_2 : parseMethodDescriptor "(II)C" = some ⟨[.int, .int], some .char⟩ := by decide +kernel
theorem pd_3 : parseMethodDescriptor "([CIILcom/example/mendmark/mendmark/core/Dtd;Lcom/example/mendmark/mendmark/core/RepairLog;)V" = some ⟨[(.array .char), .int, .int, (.object "com/example/mendmark/mendmark/core/Dtd"), (.object "com/example/mendmark/mendmark/core/RepairLog")], none⟩ := by decide +kernel
theorem pd_4 : parseMethodDescriptor "(I)I" = some ⟨[.int], some .int⟩ := by decide +kernel
theorem pd_5 : parseMethodDescriptor "([CIIC)I" = some ⟨[(.array .char), .int, .int, .char], some .int⟩ := by decide +kernel
theorem pd_6 : parseMethodDescriptor "([CII)I" = some ⟨[(.array .char), .int, .int], some .int⟩ := by decide +kernel
theorem ef_0 (m : MethodId) (p1 : Int32) (p2 : Int32) (p3 : Int32) : entryFrame m #[(.int p1), (.int p2), (.int p3)] maxLocals = mkF m 0 #[iv p1, iv p2, iv p3, .unset, .unset, .unset, .unset, .unset, .unset, .unset, .unset, .unset, .unset] [] := by first | (simp [entryFrame, mkF, argsToLocals, Value.category, maxLocals]; done) | rfl
set_option maxRecDepth 65536 in
set_option maxHeartbeats 40000000 in
theorem rm0 (l : Launch) (Z : State) (a0 : Array Value) (hw : ∀ d ∈ tables_1, d.before a0 Z = true) (ws : List Jvm.Cond) (p1 : Int32) (p2 : Int32) (p3 : Int32)  (h0 : Heap) (n0 : Nat) (Z0 : n0 ≤ h0.size)  :
    MetFree l x (head1 (Jvm.Cond.code x code maxLocals ret :: ws) room_1) (fun a U => a = #[(.int p1), (.int p2), (.int p3)] ∧ Z.Warmed39 U.vm ∧ U.heap = h0) (fun _ _ _ _ _ => True) (fun _ U o U' => ∃ v L, o = .returned v ∧ QE n0 v U'.heap L ∧ FrameEnd U o U' L room_1.cells room_1.slots) := by
  refine MetFree.of_bodySF (plainFor_of_name pn_0) hisR ?_
  intro p e s m args below meth c s₁ Bd hml0 hP hK
  obtain ⟨rfl, hZ, hh⟩ := hP
  have hx := Bd.exec
  have hby := Bd.bytes
  have hml : c.maxLocals = 13 := hml0
  have hown : s.vm.findClass "com/example/mendmark/mendmark/core/ScannerDeclarationEndPinLaw" = some m.cls := findClass_of_methodNamed Bd.named
  have hnm := (name_of_methodNamed Bd.named Bd.method).1
  have X0 : Stand p l e room_1 s m #[(.int p1), (.int p2), (.int p3)] below meth c s₁ [] 0 0 := Stand.of_body Bd
  have e0 : s₁.heap = h0 := by rw [← hh, Bd.state]; rfl
  have N0 := Fr.nil n0
  obtain ⟨B, hB, pre0⟩ : ∃ B : State → Prop, (∀ t, B t → Steps p.tables e below (s₁.setTop (entryFrame m #[(.int p1), (.int p2), (.int p3)] maxLocals)) t) ∧ ∀ t, SS p e below m s₁ 0 #[iv p1, iv p2, iv p3, .unset, .unset, .unset, .unset, .unset, .unset, .unset, .unset, .unset, .unset] [] t → B t := ⟨_, fun _ q => q, fun t kk => castTop (ef_0 m p1 p2 p3) kk⟩
  have pre1 : ∀ t, SS p e below m s₁ 3 #[iv p1, iv p2, iv p3, .unset, .unset, .unset, .unset, .unset, .unset, .unset, .unset, .unset, .unset] [(.int (p1 &&& (3 : Int32)))] t → B t := fun t kk => pre0 t (by
    show SS p e below m s₁ 0 #[iv p1, iv p2, iv p3, .unset, .unset, .unset, .unset, .unset, .unset, .unset, .unset, .unset, .unset] [] _
    refine XS.iloadN X0.here hx rfl (hb hby at_0) rfl ?_
    show SS p e below m s₁ 1 #[iv p1, iv p2, iv p3, .unset, .unset, .unset, .unset, .unset, .unset, .unset, .unset, .unset, .unset] [(.int p1)] _
    refine XS.iconst X0.here hx rfl (hb hby at_1) ?_
    show SS p e below m s₁ 2 #[iv p1, iv p2, iv p3, .unset, .unset, .unset, .unset, .unset, .unset, .unset, .unset, .unset, .unset] [(.int (3 : Int32)), (.int p1)] _
    refine XS.iand X0.here hx rfl (hb hby at_2) rfl ?_
    show SS p e below m s₁ 3 #[iv p1, iv p2, iv p3, .unset, .unset, .unset, .unset, .unset, .unset, .unset, .unset, .unset, .unset] [(.int (p1 &&& (3 : Int32)))] _
    exact kk)
  obtain ⟨sa, g_sa⟩ : ∃ z, z = (p1 &&& (3 : Int32)) := ⟨_, rfl⟩
  rw [← g_sa] at pre1
  have hsa : 0 ≤ sa.toInt ∧ sa.toInt ≤ 3 := by
    have m : (p1 &&& (3 : Int32)).toInt = p1.toInt % 4 := c_mask p1 3 2 (by decide) (by decide)
    rw [g_sa]; omega
  have hsub : (((7 : Int32) - sa)).toInt = 7 - sa.toInt := by
    have a := c_isub (7 : Int32) sa
    have r := rng32 ((7 : Int32) - sa)
    have L7 : (7 : Int32).toInt = 7 := by decide
    omega
  have hnz : ((7 : Int32) - sa) ≠ 0 := by
    intro q
    rw [q] at hsub
    have L0 : (0 : Int32).toInt = 0 := by decide
    omega
  have hfrom : 2 ≤ (sa + (2 : Int32)).toInt ∧ (sa + (2 : Int32)).toInt = sa.toInt + 2 := by
    have a := c_iadd sa (2 : Int32)
    have r := rng32 (sa + (2 : Int32))
    have L2 : (2 : Int32).toInt = 2 := by decide
    omega
  have hi0 : 2 ≤ (sa + (2 : Int32)).toInt ∧ (sa + (2 : Int32)).toInt ≤ 9 := by omega
  have pre2 : ∀ t, SS p e below m s₁ 17 #[iv p1, iv p2, iv p3, iv sa, .unset, .unset, .unset, .unset, .unset, .unset, .unset, .unset, .unset] [(.int ((sa + (2 : Int32)) + ((p2 &&& (2147483647 : Int32)) % ((7 : Int32) - sa))))] t → B t := fun t kk => pre1 t (by
    refine XS.istoreN X0.here hx rfl (hb hby at_3) rfl (l' := #[iv p1, iv p2, iv p3, iv sa, .unset, .unset, .unset, .unset, .unset, .unset, .unset, .unset, .unset]) rfl ?_
    show SS p e below m s₁ 4 #[iv p1, iv p2, iv p3, iv sa, .unset, .unset, .unset, .unset, .unset, .unset, .unset, .unset, .unset] [] _
    refine XS.iloadN X0.here hx rfl (hb hby at_4) rfl ?_
    show SS p e below m s₁ 5 #[iv p1, iv p2, iv p3, iv sa, .unset, .unset, .unset, .unset, .unset, .unset, .unset, .unset, .unset] [(.int sa)] _
    refine XS.iconst X0.here hx rfl (hb hby at_5) ?_
    show SS p e below m s₁ 6 #[iv p1, iv p2, iv p3, iv sa, .unset, .unset, .unset, .unset, .unset, .unset, .unset, .unset, .unset] [(.int (2 : Int32)), (.int sa)] _
    refine XS.iadd X0.here hx rfl (hb hby at_6) rfl ?_
    show SS p e below m s₁ 7 #[iv p1, iv p2, iv p3, iv sa, .unset, .unset, .unset, .unset, .unset, .unset, .unset, .unset, .unset] [(.int (sa + (2 : Int32)))] _
    refine XS.iloadN X0.here hx rfl (hb hby at_7) rfl ?_
    show SS p e below m s₁ 8 #[iv p1, iv p2, iv p3, iv sa, .unset, .unset, .unset, .unset, .unset, .unset, .unset, .unset, .unset] [(.int p2), (.int (sa + (2 : Int32)))] _
    refine X0.ldcInt hx hown (mvT hZ (hw _ (List.mem_of_getElem? (i := 0) rfl))) (g := (mkF m 8 #[iv p1, iv p2, iv p3, iv sa, .unset, .unset, .unset, .unset, .unset, .unset, .unset, .unset, .unset] [(.int p2), (.int (sa + (2 : Int32)))])) rfl (hb hby at_8) _ ?_
    show SS p e below m s₁ 10 #[iv p1, iv p2, iv p3, iv sa, .unset, .unset, .unset, .unset, .unset, .unset, .unset, .unset, .unset] [(.int (2147483647 : Int32)), (.int p2), (.int (sa + (2 : Int32)))] _
    refine XS.iand X0.here hx rfl (hb hby at_10) rfl ?_
    show SS p e below m s₁ 11 #[iv p1, iv p2, iv p3, iv sa, .unset, .unset, .unset, .unset, .unset, .unset, .unset, .unset, .unset] [(.int (p2 &&& (2147483647 : Int32))), (.int (sa + (2 : Int32)))] _
    refine XS.bipush X0.here hx rfl (hb hby at_11) ?_
    show SS p e below m s₁ 13 #[iv p1, iv p2, iv p3, iv sa, .unset, .unset, .unset, .unset, .unset, .unset, .unset, .unset, .unset] [(.int (7 : Int32)), (.int (p2 &&& (2147483647 : Int32))), (.int (sa + (2 : Int32)))] _
    refine XS.iloadN X0.here hx rfl (hb hby at_13) rfl ?_
    show SS p e below m s₁ 14 #[iv p1, iv p2, iv p3, iv sa, .unset, .unset, .unset, .unset, .unset, .unset, .unset, .unset, .unset] [(.int sa), (.int (7 : Int32)), (.int (p2 &&& (2147483647 : Int32))), (.int (sa + (2 : Int32)))] _
    refine XS.isub X0.here hx rfl (hb hby at_14) rfl ?_
    show SS p e below m s₁ 15 #[iv p1, iv p2, iv p3, iv sa, .unset, .unset, .unset, .unset, .unset, .unset, .unset, .unset, .unset] [(.int ((7 : Int32) - sa)), (.int (p2 &&& (2147483647 : Int32))), (.int (sa + (2 : Int32)))] _
    refine iremM (g := (mkF m 15 #[iv p1, iv p2, iv p3, iv sa, .unset, .unset, .unset, .unset, .unset, .unset, .unset, .unset, .unset] [(.int ((7 : Int32) - sa)), (.int (p2 &&& (2147483647 : Int32))), (.int (sa + (2 : Int32)))])) X0 hx rfl (hb hby at_15) rfl hnz ?_
    show SS p e below m s₁ 16 #[iv p1, iv p2, iv p3, iv sa, .unset, .unset, .unset, .unset, .unset, .unset, .unset, .unset, .unset] [(.int ((p2 &&& (2147483647 : Int32)) % ((7 : Int32) - sa))), (.int (sa + (2 : Int32)))] _
    refine XS.iadd X0.here hx rfl (hb hby at_16) rfl ?_
    show SS p e below m s₁ 17 #[iv p1, iv p2, iv p3, iv sa, .unset, .unset, .unset, .unset, .unset, .unset, .unset, .unset, .unset] [(.int ((sa + (2 : Int32)) + ((p2 &&& (2147483647 : Int32)) % ((7 : Int32) - sa))))] _
    exact kk)
  obtain ⟨lm, g_lm⟩ : ∃ z, z = ((sa + (2 : Int32)) + ((p2 &&& (2147483647 : Int32)) % ((7 : Int32) - sa))) := ⟨_, rfl⟩
  rw [← g_lm] at pre2
  have hlm : sa.toInt + 2 ≤ lm.toInt ∧ lm.toInt ≤ 8 := by
    have m : (p2 &&& (2147483647 : Int32)).toInt = p2.toInt % 2147483648 := c_mask p2 2147483647 31 (by decide) (by decide)
    have r := (c_iremV (p2 &&& (2147483647 : Int32)) ((7 : Int32) - sa)).1 (by omega) (by omega)
    have a := c_iadd (sa + (2 : Int32)) ((p2 &&& (2147483647 : Int32)) % ((7 : Int32) - sa))
    have q := rng32 lm
    rw [← g_lm] at a
    omega
  have pre3 : ∀ t, SS p e below m s₁ 21 #[iv p1, iv p2, iv p3, iv sa, iv lm, .unset, .unset, .unset, .unset, .unset, .unset, .unset, .unset] [(.int (8 : Int32))] t → B t := fun t kk => pre2 t (by
    refine XS.istore X0.here hx rfl (hb hby at_17) rfl (l' := #[iv p1, iv p2, iv p3, iv sa, iv lm, .unset, .unset, .unset, .unset, .unset, .unset, .unset, .unset]) rfl ?_
    show SS p e below m s₁ 19 #[iv p1, iv p2, iv p3, iv sa, iv lm, .unset, .unset, .unset, .unset, .unset, .unset, .unset, .unset] [] _
    refine XS.bipush X0.here hx rfl (hb hby at_19) ?_
    show SS p e below m s₁ 21 #[iv p1, iv p2, iv p3, iv sa, iv lm, .unset, .unset, .unset, .unset, .unset, .unset, .unset, .unset] [(.int (8 : Int32))] _
    exact kk)
  obtain ⟨T4, h4, k4, X4, e4, E4, A4, st4⟩ := newP X0 hx hZ (hw _ (List.mem_of_getElem? (i := 1) rfl)) e0 (g := (mkF m 21 #[iv p1, iv p2, iv p3, iv sa, iv lm, .unset, .unset, .unset, .unset, .unset, .unset, .unset, .unset] [(.int (8 : Int32))])) rfl (hb hby at_21) rfl (by decide) (cap := 8) (by decide) (by decide) (by decide) (by decide)
  obtain ⟨b4, g4⟩ : ∃ z, z = h0.size := ⟨_, rfl⟩
  rw [← g4] at A4 st4
  have V4 : Arv Z h4 b4 k4 .char (8 : Int32) [(.int (0 : Int32)), (.int (0 : Int32)), (.int (0 : Int32)), (.int (0 : Int32)), (.int (0 : Int32)), (.int (0 : Int32)), (.int (0 : Int32)), (.int (0 : Int32))] (.int (0 : Int32)) := (Arv.new A4 (by decide)).pad (pad_rep [] (.int (0 : Int32)) 8)
  have g_b4 : n0 ≤ b4 := Nat.le_trans Z0 (Nat.le_of_eq g4.symm)
  have Z4 : n0 ≤ h4.size := Nat.le_trans Z0 E4.1
  have pre5 : ∀ t, SS p e below m T4 30 #[iv p1, iv p2, iv p3, iv sa, iv lm, rv b4, .unset, .unset, .unset, .unset, .unset, .unset, .unset] [(.int (0 : Int32)), (.int p3), (.int (0 : Int32)), (.ref b4)] t → B t := fun t kk => pre3 t (by
    refine st4 _ ?_
    show SS p e below m T4 23 #[iv p1, iv p2, iv p3, iv sa, iv lm, .unset, .unset, .unset, .unset, .unset, .unset, .unset, .unset] [(.ref b4)] _
    refine XS.astore X4.here hx rfl (hb hby at_23) rfl rfl (l' := #[iv p1, iv p2, iv p3, iv sa, iv lm, rv b4, .unset, .unset, .unset, .unset, .unset, .unset, .unset]) rfl ?_
    show SS p e below m T4 25 #[iv p1, iv p2, iv p3, iv sa, iv lm, rv b4, .unset, .unset, .unset, .unset, .unset, .unset, .unset] [] _
    refine XS.aload X4.here hx rfl (hb hby at_25) rfl rfl ?_
    show SS p e below m T4 27 #[iv p1, iv p2, iv p3, iv sa, iv lm, rv b4, .unset, .unset, .unset, .unset, .unset, .unset, .unset] [(.ref b4)] _
    refine XS.iconst X4.here hx rfl (hb hby at_27) ?_
    show SS p e below m T4 28 #[iv p1, iv p2, iv p3, iv sa, iv lm, rv b4, .unset, .unset, .unset, .unset, .unset, .unset, .unset] [(.int (0 : Int32)), (.ref b4)] _
    refine XS.iloadN X4.here hx rfl (hb hby at_28) rfl ?_
    show SS p e below m T4 29 #[iv p1, iv p2, iv p3, iv sa, iv lm, rv b4, .unset, .unset, .unset, .unset, .unset, .unset, .unset] [(.int p3), (.int (0 : Int32)), (.ref b4)] _
    refine XS.iconst X4.here hx rfl (hb hby at_29) ?_
    show SS p e below m T4 30 #[iv p1, iv p2, iv p3, iv sa, iv lm, rv b4, .unset, .unset, .unset, .unset, .unset, .unset, .unset] [(.int (0 : Int32)), (.int p3), (.int (0 : Int32)), (.ref b4)] _
    exact kk)
  obtain ⟨_, _, ⟨T6, L6, k6, n6⟩, -, X6, ⟨Lc6, hQ6, l6, y6, z6⟩, st6⟩ := Jvm.LawKit.callS X4 hx (y := (⟨"com/example/mendmark/mendmark/core/ScannerDeclarationEndPinLaw", "pick", "(II)C"⟩ : MethodName)) hown (mvT hZ (hw _ (List.mem_of_getElem? (i := 2) rfl))) (mvT hZ (hw _ (List.mem_of_getElem? (i := 3) rfl))) (mvT hZ (hw _ (List.mem_of_getElem? (i := 4) rfl))) (mvT hZ (hw _ (List.mem_of_getElem? (i := 5) rfl))) (by decide) (backOf (W := 2) (rm1 l Z a0 hw [] p3 (0 : Int32) h4 n0 Z4 ) hZ (hw _ (List.mem_of_getElem? (i := 5) rfl)) (hw _ (List.mem_of_getElem? (i := 4) rfl)) (by decide) (by decide)) (g := (mkF m 30 #[iv p1, iv p2, iv p3, iv sa, iv lm, rv b4, .unset, .unset, .unset, .unset, .unset, .unset, .unset] [(.int (0 : Int32)), (.int p3), (.int (0 : Int32)), (.ref b4)])) rfl (by rw [hml]; rfl) (argsL := [(.int p3), (.int (0 : Int32))]) (rest := [(.int (0 : Int32)), (.ref b4)]) (lenOf pd_2 rfl) rfl (by show 2 * 0 + _ ≤ _; exact Nat.le_of_eq rfl) (hb hby at_30) (fun _ _ => ⟨rfl, e4, (by decide : 1 + 0 ≤ _), (by decide : 8 + 0 ≤ _)⟩)
  dsimp only [Pt.U, Pt.locs, Pt.cells, Pt.slots] at X6 l6 y6 z6 st6 hQ6
  subst l6 y6 z6
  obtain ⟨rfl, N6q, e6⟩ := hQ6
  have N6 := Fr.app N0 N6q
  have pre8 : ∀ t, SS p e below m T6 33 #[iv p1, iv p2, iv p3, iv sa, iv lm, rv b4, .unset, .unset, .unset, .unset, .unset, .unset, .unset] [(.int (f1 p3 (0 : Int32))), (.int (0 : Int32)), (.ref b4)] t → B t := fun t kk => pre5 t (by
    refine st6 _ ?_
    show SS p e below m T6 33 #[iv p1, iv p2, iv p3, iv sa, iv lm, rv b4, .unset, .unset, .unset, .unset, .unset, .unset, .unset] [(.int (f1 p3 (0 : Int32))), (.int (0 : Int32)), (.ref b4)] _
    exact kk)
  obtain ⟨v7, g_v7⟩ : ∃ z, z = (f1 p3 (0 : Int32)) := ⟨_, rfl⟩
  rw [← g_v7] at pre8
  obtain ⟨cl9, Ar9, q9, S9, M9, H9, G9⟩ := V4
  have hin9 : ¬ ((0 : Int32) < 0 ∨ cl9.slots.size ≤ ((0 : Int32)).toNatClampNeg) := inb_of S9 ⟨by decide, by decide⟩
  obtain ⟨T9, h9, X9, e9, W9, st9⟩ := stC X6 hx hZ e6 Ar9 (j := (0 : Int32)) hin9 (g := (mkF m 33 #[iv p1, iv p2, iv p3, iv sa, iv lm, rv b4, .unset, .unset, .unset, .unset, .unset, .unset, .unset] [(.int v7), (.int (0 : Int32)), (.ref b4)])) rfl rfl (hb hby at_33)
  have V9 := Arv.set Ar9 q9 S9 M9 H9 G9 (fits_nar_char _) W9 0 rfl (Nat.le_of_ble_eq_true rfl)
  have V9' : Arv Z h9 b4 k4 .char (8 : Int32) [(.int (nar .char v7)), (.int (0 : Int32)), (.int (0 : Int32)), (.int (0 : Int32)), (.int (0 : Int32)), (.int (0 : Int32)), (.int (0 : Int32)), (.int (0 : Int32))] (.int (0 : Int32)) := V9
  have N9 := Fr.snoc X9 N6 g_b4
  have Z9 : n0 ≤ h9.size := Nat.le_trans Z4 (Keep.of_wr W9).1
  have pre10 : ∀ t, SS p e below m T9 39 #[iv p1, iv p2, iv p3, iv sa, iv lm, rv b4, .unset, .unset, .unset, .unset, .unset, .unset, .unset] [(.int (1 : Int32)), (.int p3), (.int (1 : Int32)), (.ref b4)] t → B t := fun t kk => pre8 t (by
    refine st9 _ ?_
    show SS p e below m T9 34 #[iv p1, iv p2, iv p3, iv sa, iv lm, rv b4, .unset, .unset, .unset, .unset, .unset, .unset, .unset] [] _
    refine XS.aload X9.here hx rfl (hb hby at_34) rfl rfl ?_
    show SS p e below m T9 36 #[iv p1, iv p2, iv p3, iv sa, iv lm, rv b4, .unset, .unset, .unset, .unset, .unset, .unset, .unset] [(.ref b4)] _
    refine XS.iconst X9.here hx rfl (hb hby at_36) ?_
    show SS p e below m T9 37 #[iv p1, iv p2, iv p3, iv sa, iv lm, rv b4, .unset, .unset, .unset, .unset, .unset, .unset, .unset] [(.int (1 : Int32)), (.ref b4)] _
    refine XS.iloadN X9.here hx rfl (hb hby at_37) rfl ?_
    show SS p e below m T9 38 #[iv p1, iv p2, iv p3, iv sa, iv lm, rv b4, .unset, .unset, .unset, .unset, .unset, .unset, .unset] [(.int p3), (.int (1 : Int32)), (.ref b4)] _
    refine XS.iconst X9.here hx rfl (hb hby at_38) ?_
    show SS p e below m T9 39 #[iv p1, iv p2, iv p3, iv sa, iv lm, rv b4, .unset, .unset, .unset, .unset, .unset, .unset, .unset] [(.int (1 : Int32)), (.int p3), (.int (1 : Int32)), (.ref b4)] _
    exact kk)
  obtain ⟨_, _, ⟨T11, L11, k11, n11⟩, -, X11, ⟨Lc11, hQ11, l11, y11, z11⟩, st11⟩ := Jvm.LawKit.callS X9 hx (y := (⟨"com/example/mendmark/mendmark/core/ScannerDeclarationEndPinLaw", "pick", "(II)C"⟩ : MethodName)) hown (mvT hZ (hw _ (List.mem_of_getElem? (i := 2) rfl))) (mvT hZ (hw _ (List.mem_of_getElem? (i := 3) rfl))) (mvT hZ (hw _ (List.mem_of_getElem? (i := 4) rfl))) (mvT hZ (hw _ (List.mem_of_getElem? (i := 5) rfl))) (by decide) (backOf (W := 2) (rm1 l Z a0 hw [] p3 (1 : Int32) h9 n0 Z9 ) hZ (hw _ (List.mem_of_getElem? (i := 5) rfl)) (hw _ (List.mem_of_getElem? (i := 4) rfl)) (by decide) (by decide)) (g := (mkF m 39 #[iv p1, iv p2, iv p3, iv sa, iv lm, rv b4, .unset, .unset, .unset, .unset, .unset, .unset, .unset] [(.int (1 : Int32)), (.int p3), (.int (1 : Int32)), (.ref b4)])) rfl (by rw [hml]; rfl) (argsL := [(.int p3), (.int (1 : Int32))]) (rest := [(.int (1 : Int32)), (.ref b4)]) (lenOf pd_2 rfl) rfl (by show 2 * 0 + _ ≤ _; exact Nat.le_of_eq rfl) (hb hby at_39) (fun _ _ => ⟨rfl, e9, (by decide : 1 + 0 ≤ _), (by decide : 8 + 0 ≤ _)⟩)
  dsimp only [Pt.U, Pt.locs, Pt.cells, Pt.slots] at X11 l11 y11 z11 st11 hQ11
  subst l11 y11 z11
  obtain ⟨rfl, N11q, e11⟩ := hQ11
  have N11 := Fr.app N9 N11q
  have pre13 : ∀ t, SS p e below m T11 42 #[iv p1, iv p2, iv p3, iv sa, iv lm, rv b4, .unset, .unset, .unset, .unset, .unset, .unset, .unset] [(.int (f1 p3 (1 : Int32))), (.int (1 : Int32)), (.ref b4)] t → B t := fun t kk => pre10 t (by
    refine st11 _ ?_
    show SS p e below m T11 42 #[iv p1, iv p2, iv p3, iv sa, iv lm, rv b4, .unset, .unset, .unset, .unset, .unset, .unset, .unset] [(.int (f1 p3 (1 : Int32))), (.int (1 : Int32)), (.ref b4)] _
    exact kk)
  obtain ⟨v12, g_v12⟩ : ∃ z, z = (f1 p3 (1 : Int32)) := ⟨_, rfl⟩
  rw [← g_v12] at pre13
  obtain ⟨cl14, Ar14, q14, S14, M14, H14, G14⟩ := V9'
  have hin14 : ¬ ((1 : Int32) < 0 ∨ cl14.slots.size ≤ ((1 : Int32)).toNatClampNeg) := inb_of S14 ⟨by decide, by decide⟩
  obtain ⟨T14, h14, X14, e14, W14, st14⟩ := stC X11 hx hZ e11 Ar14 (j := (1 : Int32)) hin14 (g := (mkF m 42 #[iv p1, iv p2, iv p3, iv sa, iv lm, rv b4, .unset, .unset, .unset, .unset, .unset, .unset, .unset] [(.int v12), (.int (1 : Int32)), (.ref b4)])) rfl rfl (hb hby at_42)
  have V14 := Arv.set Ar14 q14 S14 M14 H14 G14 (fits_nar_char _) W14 1 rfl (Nat.le_of_ble_eq_true rfl)
  have V14' : Arv Z h14 b4 k4 .char (8 : Int32) [(.int (nar .char v7)), (.int (nar .char v12)), (.int (0 : Int32)), (.int (0 : Int32)), (.int (0 : Int32)), (.int (0 : Int32)), (.int (0 : Int32)), (.int (0 : Int32))] (.int (0 : Int32)) := V14
  have N14 := Fr.snoc X14 N11 g_b4
  have Z14 : n0 ≤ h14.size := Nat.le_trans Z9 (Keep.of_wr W14).1
  have pre15 : ∀ t, SS p e below m T14 48 #[iv p1, iv p2, iv p3, iv sa, iv lm, rv b4, .unset, .unset, .unset, .unset, .unset, .unset, .unset] [(.int (2 : Int32)), (.int p3), (.int (2 : Int32)), (.ref b4)] t → B t := fun t kk => pre13 t (by
    refine st14 _ ?_
    show SS p e below m T14 43 #[iv p1, iv p2, iv p3, iv sa, iv lm, rv b4, .unset, .unset, .unset, .unset, .unset, .unset, .unset] [] _
    refine XS.aload X14.here hx rfl (hb hby at_43) rfl rfl ?_
    show SS p e below m T14 45 #[iv p1, iv p2, iv p3, iv sa, iv lm, rv b4, .unset, .unset, .unset, .unset, .unset, .unset, .unset] [(.ref b4)] _
    refine XS.iconst X14.here hx rfl (hb hby at_45) ?_
    show SS p e below m T14 46 #[iv p1, iv p2, iv p3, iv sa, iv lm, rv b4, .unset, .unset, .unset, .unset, .unset, .unset, .unset] [(.int (2 : Int32)), (.ref b4)] _
    refine XS.iloadN X14.here hx rfl (hb hby at_46) rfl ?_
    show SS p e below m T14 47 #[iv p1, iv p2, iv p3, iv sa, iv lm, rv b4, .unset, .unset, .unset, .unset, .unset, .unset, .unset] [(.int p3), (.int (2 : Int32)), (.ref b4)] _
    refine XS.iconst X14.here hx rfl (hb hby at_47) ?_
    show SS p e below m T14 48 #[iv p1, iv p2, iv p3, iv sa, iv lm, rv b4, .unset, .unset, .unset, .unset, .unset, .unset, .unset] [(.int (2 : Int32)), (.int p3), (.int (2 : Int32)), (.ref b4)] _
    exact kk)
  obtain ⟨_, _, ⟨T16, L16, k16, n16⟩, -, X16, ⟨Lc16, hQ16, l16, y16, z16⟩, st16⟩ := Jvm.LawKit.callS X14 hx (y := (⟨"com/example/mendmark/mendmark/core/ScannerDeclarationEndPinLaw", "pick", "(II)C"⟩ : MethodName)) hown (mvT hZ (hw _ (List.mem_of_getElem? (i := 2) rfl))) (mvT hZ (hw _ (List.mem_of_getElem? (i := 3) rfl))) (mvT hZ (hw _ (List.mem_of_getElem? (i := 4) rfl))) (mvT hZ (hw _ (List.mem_of_getElem? (i := 5) rfl))) (by decide) (backOf (W := 2) (rm1 l Z a0 hw [] p3 (2 : Int32) h14 n0 Z14 ) hZ (hw _ (List.mem_of_getElem? (i := 5) rfl)) (hw _ (List.mem_of_getElem? (i := 4) rfl)) (by decide) (by decide)) (g := (mkF m 48 #[iv p1, iv p2, iv p3, iv sa, iv lm, rv b4, .unset, .unset, .unset, .unset, .unset, .unset, .unset] [(.int (2 : Int32)), (.int p3), (.int (2 : Int32)), (.ref b4)])) rfl (by rw [hml]; rfl) (argsL := [(.int p3), (.int (2 : Int32))]) (rest := [(.int (2 : Int32)), (.ref b4)]) (lenOf pd_2 rfl) rfl (by show 2 * 0 + _ ≤ _; exact Nat.le_of_eq rfl) (hb hby at_48) (fun _ _ => ⟨rfl, e14, (by decide : 1 + 0 ≤ _), (by decide : 8 + 0 ≤ _)⟩)
  dsimp only [Pt.U, Pt.locs, Pt.cells, Pt.slots] at X16 l16 y16 z16 st16 hQ16
  subst l16 y16 z16
  obtain ⟨rfl, N16q, e16⟩ := hQ16
  have N16 := Fr.app N14 N16q
  have pre18 : ∀ t, SS p e below m T16 51 #[iv p1, iv p2, iv p3, iv sa, iv lm, rv b4, .unset, .unset, .unset, .unset, .unset, .unset, .unset] [(.int (f1 p3 (2 : Int32))), (.int (2 : Int32)), (.ref b4)] t → B t := fun t kk => pre15 t (by
    refine st16 _ ?_
    show SS p e below m T16 51 #[iv p1, iv p2, iv p3, iv sa, iv lm, rv b4, .unset, .unset, .unset, .unset, .unset, .unset, .unset] [(.int (f1 p3 (2 : Int32))), (.int (2 : Int32)), (.ref b4)] _
    exact kk)
  obtain ⟨v17, g_v17⟩ : ∃ z, z = (f1 p3 (2 : Int32)) := ⟨_, rfl⟩
  rw [← g_v17] at pre18
  obtain ⟨cl19, Ar19, q19, S19, M19, H19, G19⟩ := V14'
  have hin19 : ¬ ((2 : Int32) < 0 ∨ cl19.slots.size ≤ ((2 : Int32)).toNatClampNeg) := inb_of S19 ⟨by decide, by decide⟩
  obtain ⟨T19, h19, X19, e19, W19, st19⟩ := stC X16 hx hZ e16 Ar19 (j := (2 : Int32)) hin19 (g := (mkF m 51 #[iv p1, iv p2, iv p3, iv sa, iv lm, rv b4, .unset, .unset, .unset, .unset, .unset, .unset, .unset] [(.int v17), (.int (2 : Int32)), (.ref b4)])) rfl rfl (hb hby at_51)
  have V19 := Arv.set Ar19 q19 S19 M19 H19 G19 (fits_nar_char _) W19 2 rfl (Nat.le_of_ble_eq_true rfl)
  have V19' : Arv Z h19 b4 k4 .char (8 : Int32) [(.int (nar .char v7)), (.int (nar .char v12)), (.int (nar .char v17)), (.int (0 : Int32)), (.int (0 : Int32)), (.int (0 : Int32)), (.int (0 : Int32)), (.int (0 : Int32))] (.int (0 : Int32)) := V19
  have N19 := Fr.snoc X19 N16 g_b4
  have Z19 : n0 ≤ h19.size := Nat.le_trans Z14 (Keep.of_wr W19).1
  have pre20 : ∀ t, SS p e below m T19 57 #[iv p1, iv p2, iv p3, iv sa, iv lm, rv b4, .unset, .unset, .unset, .unset, .unset, .unset, .unset] [(.int (3 : Int32)), (.int p3), (.int (3 : Int32)), (.ref b4)] t → B t := fun t kk => pre18 t (by
    refine st19 _ ?_
    show SS p e below m T19 52 #[iv p1, iv p2, iv p3, iv sa, iv lm, rv b4, .unset, .unset, .unset, .unset, .unset, .unset, .unset] [] _
    refine XS.aload X19.here hx rfl (hb hby at_52) rfl rfl ?_
    show SS p e below m T19 54 #[iv p1, iv p2, iv p3, iv sa, iv lm, rv b4, .unset, .unset, .unset, .unset, .unset, .unset, .unset] [(.ref b4)] _
    refine XS.iconst X19.here hx rfl (hb hby at_54) ?_
    show SS p e below m T19 55 #[iv p1, iv p2, iv p3, iv sa, iv lm, rv b4, .unset, .unset, .unset, .unset, .unset, .unset, .unset] [(.int (3 : Int32)), (.ref b4)] _
    refine XS.iloadN X19.here hx rfl (hb hby at_55) rfl ?_
    show SS p e below m T19 56 #[iv p1, iv p2, iv p3, iv sa, iv lm, rv b4, .unset, .unset, .unset, .unset, .unset, .unset, .unset] [(.int p3), (.int (3 : Int32)), (.ref b4)] _
    refine XS.iconst X19.here hx rfl (hb hby at_56) ?_
    show SS p e below m T19 57 #[iv p1, iv p2, iv p3, iv sa, iv lm, rv b4, .unset, .unset, .unset, .unset, .unset, .unset, .unset] [(.int (3 : Int32)), (.int p3), (.int (3 : Int32)), (.ref b4)] _
    exact kk)
  obtain ⟨_, _, ⟨T21, L21, k21, n21⟩, -, X21, ⟨Lc21, hQ21, l21, y21, z21⟩, st21⟩ := Jvm.LawKit.callS X19 hx (y := (⟨"com/example/mendmark/mendmark/core/ScannerDeclarationEndPinLaw", "pick", "(II)C"⟩ : MethodName)) hown (mvT hZ (hw _ (List.mem_of_getElem? (i := 2) rfl))) (mvT hZ (hw _ (List.mem_of_getElem? (i := 3) rfl))) (mvT hZ (hw _ (List.mem_of_getElem? (i := 4) rfl))) (mvT hZ (hw _ (List.mem_of_getElem? (i := 5) rfl))) (by decide) (backOf (W := 2) (rm1 l Z a0 hw [] p3 (3 : Int32) h19 n0 Z19 ) hZ (hw _ (List.mem_of_getElem? (i := 5) rfl)) (hw _ (List.mem_of_getElem? (i := 4) rfl)) (by decide) (by decide)) (g := (mkF m 57 #[iv p1, iv p2, iv p3, iv sa, iv lm, rv b4, .unset, .unset, .unset, .unset, .unset, .unset, .unset] [(.int (3 : Int32)), (.int p3), (.int (3 : Int32)), (.ref b4)])) rfl (by rw [hml]; rfl) (argsL := [(.int p3), (.int (3 : Int32))]) (rest := [(.int (3 : Int32)), (.ref b4)]) (lenOf pd_2 rfl) rfl (by show 2 * 0 + _ ≤ _; exact Nat.le_of_eq rfl) (hb hby at_57) (fun _ _ => ⟨rfl, e19, (by decide : 1 + 0 ≤ _), (by decide : 8 + 0 ≤ _)⟩)
  dsimp only [Pt.U, Pt.locs, Pt.cells, Pt.slots] at X21 l21 y21 z21 st21 hQ21
  subst l21 y21 z21
  obtain ⟨rfl, N21q, e21⟩ := hQ21
  have N21 := Fr.app N19 N21q
  have pre23 : ∀ t, SS p e below m T21 60 #[iv p1, iv p2, iv p3, iv sa, iv lm, rv b4, .unset, .unset, .unset, .unset, .unset, .unset, .unset] [(.int (f1 p3 (3 : Int32))), (.int (3 : Int32)), (.ref b4)] t → B t := fun t kk => pre20 t (by
    refine st21 _ ?_
    show SS p e below m T21 60 #[iv p1, iv p2, iv p3, iv sa, iv lm, rv b4, .unset, .unset, .unset, .unset, .unset, .unset, .unset] [(.int (f1 p3 (3 : Int32))), (.int (3 : Int32)), (.ref b4)] _
    exact kk)
  obtain ⟨v22, g_v22⟩ : ∃ z, z = (f1 p3 (3 : Int32)) := ⟨_, rfl⟩
  rw [← g_v22] at pre23
  obtain ⟨cl24, Ar24, q24, S24, M24, H24, G24⟩ := V19'
  have hin24 : ¬ ((3 : Int32) < 0 ∨ cl24.slots.size ≤ ((3 : Int32)).toNatClampNeg) := inb_of S24 ⟨by decide, by decide⟩
  obtain ⟨T24, h24, X24, e24, W24, st24⟩ := stC X21 hx hZ e21 Ar24 (j := (3 : Int32)) hin24 (g := (mkF m 60 #[iv p1, iv p2, iv p3, iv sa, iv lm, rv b4, .unset, .unset, .unset, .unset, .unset, .unset, .unset] [(.int v22), (.int (3 : Int32)), (.ref b4)])) rfl rfl (hb hby at_60)
  have V24 := Arv.set Ar24 q24 S24 M24 H24 G24 (fits_nar_char _) W24 3 rfl (Nat.le_of_ble_eq_true rfl)
  have V24' : Arv Z h24 b4 k4 .char (8 : Int32) [(.int (nar .char v7)), (.int (nar .char v12)), (.int (nar .char v17)), (.int (nar .char v22)), (.int (0 : Int32)), (.int (0 : Int32)), (.int (0 : Int32)), (.int (0 : Int32))] (.int (0 : Int32)) := V24
  have N24 := Fr.snoc X24 N21 g_b4
  have Z24 : n0 ≤ h24.size := Nat.le_trans Z19 (Keep.of_wr W24).1
  have pre25 : ∀ t, SS p e below m T24 66 #[iv p1, iv p2, iv p3, iv sa, iv lm, rv b4, .unset, .unset, .unset, .unset, .unset, .unset, .unset] [(.int (4 : Int32)), (.int p3), (.int (4 : Int32)), (.ref b4)] t → B t := fun t kk => pre23 t (by
    refine st24 _ ?_
    show SS p e below m T24 61 #[iv p1, iv p2, iv p3, iv sa, iv lm, rv b4, .unset, .unset, .unset, .unset, .unset, .unset, .unset] [] _
    refine XS.aload X24.here hx rfl (hb hby at_61) rfl rfl ?_
    show SS p e below m T24 63 #[iv p1, iv p2, iv p3, iv sa, iv lm, rv b4, .unset, .unset, .unset, .unset, .unset, .unset, .unset] [(.ref b4)] _
    refine XS.iconst X24.here hx rfl (hb hby at_63) ?_
    show SS p e below m T24 64 #[iv p1, iv p2, iv p3, iv sa, iv lm, rv b4, .unset, .unset, .unset, .unset, .unset, .unset, .unset] [(.int (4 : Int32)), (.ref b4)] _
    refine XS.iloadN X24.here hx rfl (hb hby at_64) rfl ?_
    show SS p e below m T24 65 #[iv p1, iv p2, iv p3, iv sa, iv lm, rv b4, .unset, .unset, .unset, .unset, .unset, .unset, .unset] [(.int p3), (.int (4 : Int32)), (.ref b4)] _
    refine XS.iconst X24.here hx rfl (hb hby at_65) ?_
    show SS p e below m T24 66 #[iv p1, iv p2, iv p3, iv sa, iv lm, rv b4, .unset, .unset, .unset, .unset, .unset, .unset, .unset] [(.int (4 : Int32)), (.int p3), (.int (4 : Int32)), (.ref b4)] _
    exact kk)
  obtain ⟨_, _, ⟨T26, L26, k26, n26⟩, -, X26, ⟨Lc26, hQ26, l26, y26, z26⟩, st26⟩ := Jvm.LawKit.callS X24 hx (y := (⟨"com/example/mendmark/mendmark/core/ScannerDeclarationEndPinLaw", "pick", "(II)C"⟩ : MethodName)) hown (mvT hZ (hw _ (List.mem_of_getElem? (i := 2) rfl))) (mvT hZ (hw _ (List.mem_of_getElem? (i := 3) rfl))) (mvT hZ (hw _ (List.mem_of_getElem? (i := 4) rfl))) (mvT hZ (hw _ (List.mem_of_getElem? (i := 5) rfl))) (by decide) (backOf (W := 2) (rm1 l Z a0 hw [] p3 (4 : Int32) h24 n0 Z24 ) hZ (hw _ (List.mem_of_getElem? (i := 5) rfl)) (hw _ (List.mem_of_getElem? (i := 4) rfl)) (by decide) (by decide)) (g := (mkF m 66 #[iv p1, iv p2, iv p3, iv sa, iv lm, rv b4, .unset, .unset, .unset, .unset, .unset, .unset, .unset] [(.int (4 : Int32)), (.int p3), (.int (4 : Int32)), (.ref b4)])) rfl (by rw [hml]; rfl) (argsL := [(.int p3), (.int (4 : Int32))]) (rest := [(.int (4 : Int32)), (.ref b4)]) (lenOf pd_2 rfl) rfl (by show 2 * 0 + _ ≤ _; exact Nat.le_of_eq rfl) (hb hby at_66) (fun _ _ => ⟨rfl, e24, (by decide : 1 + 0 ≤ _), (by decide : 8 + 0 ≤ _)⟩)
  dsimp only [Pt.U, Pt.locs, Pt.cells, Pt.slots] at X26 l26 y26 z26 st26 hQ26
  subst l26 y26 z26
  obtain ⟨rfl, N26q, e26⟩ := hQ26
  have N26 := Fr.app N24 N26q
  have pre28 : ∀ t, SS p e below m T26 69 #[iv p1, iv p2, iv p3, iv sa, iv lm, rv b4, .unset, .unset, .unset, .unset, .unset, .unset, .unset] [(.int (f1 p3 (4 : Int32))), (.int (4 : Int32)), (.ref b4)] t → B t := fun t kk => pre25 t (by
    refine st26 _ ?_
    show SS p e below m T26 69 #[iv p1, iv p2, iv p3, iv sa, iv lm, rv b4, .unset, .unset, .unset, .unset, .unset, .unset, .unset] [(.int (f1 p3 (4 : Int32))), (.int (4 : Int32)), (.ref b4)] _
    exact kk)
  obtain ⟨v27, g_v27⟩ : ∃ z, z = (f1 p3 (4 : Int32)) := ⟨_, rfl⟩
  rw [← g_v27] at pre28
  obtain ⟨cl29, Ar29, q29, S29, M29, H29, G29⟩ := V24'
  have hin29 : ¬ ((4 : Int32) < 0 ∨ cl29.slots.size ≤ ((4 : Int32)).toNatClampNeg) := inb_of S29 ⟨by decide, by decide⟩
  obtain ⟨T29, h29, X29, e29, W29, st29⟩ := stC X26 hx hZ e26 Ar29 (j := (4 : Int32)) hin29 (g := (mkF m 69 #[iv p1, iv p2, iv p3, iv sa, iv lm, rv b4, .unset, .unset, .unset, .unset, .unset, .unset, .unset] [(.int v27), (.int (4 : Int32)), (.ref b4)])) rfl rfl (hb hby at_69)
  have V29 := Arv.set Ar29 q29 S29 M29 H29 G29 (fits_nar_char _) W29 4 rfl (Nat.le_of_ble_eq_true rfl)
  have V29' : Arv Z h29 b4 k4 .char (8 : Int32) [(.int (nar .char v7)), (.int (nar .char v12)), (.int (nar .char v17)), (.int (nar .char v22)), (.int (nar .char v27)), (.int (0 : Int32)), (.int (0 : Int32)), (.int (0 : Int32))] (.int (0 : Int32)) := V29
  have N29 := Fr.snoc X29 N26 g_b4
  have Z29 : n0 ≤ h29.size := Nat.le_trans Z24 (Keep.of_wr W29).1
  have pre30 : ∀ t, SS p e below m T29 75 #[iv p1, iv p2, iv p3, iv sa, iv lm, rv b4, .unset, .unset, .unset, .unset, .unset, .unset, .unset] [(.int (5 : Int32)), (.int p3), (.int (5 : Int32)), (.ref b4)] t → B t := fun t kk => pre28 t (by
    refine st29 _ ?_
    show SS p e below m T29 70 #[iv p1, iv p2, iv p3, iv sa, iv lm, rv b4, .unset, .unset, .unset, .unset, .unset, .unset, .unset] [] _
    refine XS.aload X29.here hx rfl (hb hby at_70) rfl rfl ?_
    show SS p e below m T29 72 #[iv p1, iv p2, iv p3, iv sa, iv lm, rv b4, .unset, .unset, .unset, .unset, .unset, .unset, .unset] [(.ref b4)] _
    refine XS.iconst X29.here hx rfl (hb hby at_72) ?_
    show SS p e below m T29 73 #[iv p1, iv p2, iv p3, iv sa, iv lm, rv b4, .unset, .unset, .unset, .unset, .unset, .unset, .unset] [(.int (5 : Int32)), (.ref b4)] _
    refine XS.iloadN X29.here hx rfl (hb hby at_73) rfl ?_
    show SS p e below m T29 74 #[iv p1, iv p2, iv p3, iv sa, iv lm, rv b4, .unset, .unset, .unset, .unset, .unset, .unset, .unset] [(.int p3), (.int (5 : Int32)), (.ref b4)] _
    refine XS.iconst X29.here hx rfl (hb hby at_74) ?_
    show SS p e below m T29 75 #[iv p1, iv p2, iv p3, iv sa, iv lm, rv b4, .unset, .unset, .unset, .unset, .unset, .unset, .unset] [(.int (5 : Int32)), (.int p3), (.int (5 : Int32)), (.ref b4)] _
    exact kk)
  obtain ⟨_, _, ⟨T31, L31, k31, n31⟩, -, X31, ⟨Lc31, hQ31, l31, y31, z31⟩, st31⟩ := Jvm.LawKit.callS X29 hx (y := (⟨"com/example/mendmark/mendmark/core/ScannerDeclarationEndPinLaw", "pick", "(II)C"⟩ : MethodName)) hown (mvT hZ (hw _ (List.mem_of_getElem? (i := 2) rfl))) (mvT hZ (hw _ (List.mem_of_getElem? (i := 3) rfl))) (mvT hZ (hw _ (List.mem_of_getElem? (i := 4) rfl))) (mvT hZ (hw _ (List.mem_of_getElem? (i := 5) rfl))) (by decide) (backOf (W := 2) (rm1 l Z a0 hw [] p3 (5 : Int32) h29 n0 Z29 ) hZ (hw _ (List.mem_of_getElem? (i := 5) rfl)) (hw _ (List.mem_of_getElem? (i := 4) rfl)) (by decide) (by decide)) (g := (mkF m 75 #[iv p1, iv p2, iv p3, iv sa, iv lm, rv b4, .unset, .unset, .unset, .unset, .unset, .unset, .unset] [(.int (5 : Int32)), (.int p3), (.int (5 : Int32)), (.ref b4)])) rfl (by rw [hml]; rfl) (argsL := [(.int p3), (.int (5 : Int32))]) (rest := [(.int (5 : Int32)), (.ref b4)]) (lenOf pd_2 rfl) rfl (by show 2 * 0 + _ ≤ _; exact Nat.le_of_eq rfl) (hb hby at_75) (fun _ _ => ⟨rfl, e29, (by decide : 1 + 0 ≤ _), (by decide : 8 + 0 ≤ _)⟩)
  dsimp only [Pt.U, Pt.locs, Pt.cells, Pt.slots] at X31 l31 y31 z31 st31 hQ31
  subst l31 y31 z31
  obtain ⟨rfl, N31q, e31⟩ := hQ31
  have N31 := Fr.app N29 N31q
  have pre33 : ∀ t, SS p e below m T31 78 #[iv p1, iv p2, iv p3, iv sa, iv lm, rv b4, .unset, .unset, .unset, .unset, .unset, .unset, .unset] [(.int (f1 p3 (5 : Int32))), (.int (5 : Int32)), (.ref b4)] t → B t := fun t kk => pre30 t (by
    refine st31 _ ?_
    show SS p e below m T31 78 #[iv p1, iv p2, iv p3, iv sa, iv lm, rv b4, .unset, .unset, .unset, .unset, .unset, .unset, .unset] [(.int (f1 p3 (5 : Int32))), (.int (5 : Int32)), (.ref b4)] _
    exact kk)
  obtain ⟨v32, g_v32⟩ : ∃ z, z = (f1 p3 (5 : Int32)) := ⟨_, rfl⟩
  rw [← g_v32] at pre33
  obtain ⟨cl34, Ar34, q34, S34, M34, H34, G34⟩ := V29'
  have hin34 : ¬ ((5 : Int32) < 0 ∨ cl34.slots.size ≤ ((5 : Int32)).toNatClampNeg) := inb_of S34 ⟨by decide, by decide⟩
  obtain ⟨T34, h34, X34, e34, W34, st34⟩ := stC X31 hx hZ e31 Ar34 (j := (5 : Int32)) hin34 (g := (mkF m 78 #[iv p1, iv p2, iv p3, iv sa, iv lm, rv b4, .unset, .unset, .unset, .unset, .unset, .unset, .unset] [(.int v32), (.int (5 : Int32)), (.ref b4)])) rfl rfl (hb hby at_78)
  have V34 := Arv.set Ar34 q34 S34 M34 H34 G34 (fits_nar_char _) W34 5 rfl (Nat.le_of_ble_eq_true rfl)
  have V34' : Arv Z h34 b4 k4 .char (8 : Int32) [(.int (nar .char v7)), (.int (nar .char v12)), (.int (nar .char v17)), (.int (nar .char v22)), (.int (nar .char v27)), (.int (nar .char v32)), (.int (0 : Int32)), (.int (0 : Int32))] (.int (0 : Int32)) := V34
  have N34 := Fr.snoc X34 N31 g_b4
  have Z34 : n0 ≤ h34.size := Nat.le_trans Z29 (Keep.of_wr W34).1
  have pre35 : ∀ t, SS p e below m T34 86 #[iv p1, iv p2, iv p3, iv sa, iv lm, rv b4, .unset, .unset, .unset, .unset, .unset, .unset, .unset] [(.int (6 : Int32)), (.int p3), (.int (6 : Int32)), (.ref b4)] t → B t := fun t kk => pre33 t (by
    refine st34 _ ?_
    show SS p e below m T34 79 #[iv p1, iv p2, iv p3, iv sa, iv lm, rv b4, .unset, .unset, .unset, .unset, .unset, .unset, .unset] [] _
    refine XS.aload X34.here hx rfl (hb hby at_79) rfl rfl ?_
    show SS p e below m T34 81 #[iv p1, iv p2, iv p3, iv sa, iv lm, rv b4, .unset, .unset, .unset, .unset, .unset, .unset, .unset] [(.ref b4)] _
    refine XS.bipush X34.here hx rfl (hb hby at_81) ?_
    show SS p e below m T34 83 #[iv p1, iv p2, iv p3, iv sa, iv lm, rv b4, .unset, .unset, .unset, .unset, .unset, .unset, .unset] [(.int (6 : Int32)), (.ref b4)] _
    refine XS.iloadN X34.here hx rfl (hb hby at_83) rfl ?_
    show SS p e below m T34 84 #[iv p1, iv p2, iv p3, iv sa, iv lm, rv b4, .unset, .unset, .unset, .unset, .unset, .unset, .unset] [(.int p3), (.int (6 : Int32)), (.ref b4)] _
    refine XS.bipush X34.here hx rfl (hb hby at_84) ?_
    show SS p e below m T34 86 #[iv p1, iv p2, iv p3, iv sa, iv lm, rv b4, .unset, .unset, .unset, .unset, .unset, .unset, .unset] [(.int (6 : Int32)), (.int p3), (.int (6 : Int32)), (.ref b4)] _
    exact kk)
  obtain ⟨_, _, ⟨T36, L36, k36, n36⟩, -, X36, ⟨Lc36, hQ36, l36, y36, z36⟩, st36⟩ := Jvm.LawKit.callS X34 hx (y := (⟨"com/example/mendmark/mendmark/core/ScannerDeclarationEndPinLaw", "pick", "(II)C"⟩ : MethodName)) hown (mvT hZ (hw _ (List.mem_of_getElem? (i := 2) rfl))) (mvT hZ (hw _ (List.mem_of_getElem? (i := 3) rfl))) (mvT hZ (hw _ (List.mem_of_getElem? (i := 4) rfl))) (mvT hZ (hw _ (List.mem_of_getElem? (i := 5) rfl))) (by decide) (backOf (W := 2) (rm1 l Z a0 hw [] p3 (6 : Int32) h34 n0 Z34 ) hZ (hw _ (List.mem_of_getElem? (i := 5) rfl)) (hw _ (List.mem_of_getElem? (i := 4) rfl)) (by decide) (by decide)) (g := (mkF m 86 #[iv p1, iv p2, iv p3, iv sa, iv lm, rv b4, .unset, .unset, .unset, .unset, .unset, .unset, .unset] [(.int (6 : Int32)), (.int p3), (.int (6 : Int32)), (.ref b4)])) rfl (by rw [hml]; rfl) (argsL := [(.int p3), (.int (6 : Int32))]) (rest := [(.int (6 : Int32)), (.ref b4)]) (lenOf pd_2 rfl) rfl (by show 2 * 0 + _ ≤ _; exact Nat.le_of_eq rfl) (hb hby at_86) (fun _ _ => ⟨rfl, e34, (by decide : 1 + 0 ≤ _), (by decide : 8 + 0 ≤ _)⟩)
  dsimp only [Pt.U, Pt.locs, Pt.cells, Pt.slots] at X36 l36 y36 z36 st36 hQ36
  subst l36 y36 z36
  obtain ⟨rfl, N36q, e36⟩ := hQ36
  have N36 := Fr.app N34 N36q
  have pre38 : ∀ t, SS p e below m T36 89 #[iv p1, iv p2, iv p3, iv sa, iv lm, rv b4, .unset, .unset, .unset, .unset, .unset, .unset, .unset] [(.int (f1 p3 (6 : Int32))), (.int (6 : Int32)), (.ref b4)] t → B t := fun t kk => pre35 t (by
    refine st36 _ ?_
    show SS p e below m T36 89 #[iv p1, iv p2, iv p3, iv sa, iv lm, rv b4, .unset, .unset, .unset, .unset, .unset, .unset, .unset] [(.int (f1 p3 (6 : Int32))), (.int (6 : Int32)), (.ref b4)] _
    exact kk)
  obtain ⟨v37, g_v37⟩ : ∃ z, z = (f1 p3 (6 : Int32)) := ⟨_, rfl⟩
  rw [← g_v37] at pre38
  obtain ⟨cl39, Ar39, q39, S39, M39, H39, G39⟩ := V34'
  have hin39 : ¬ ((6 : Int32) < 0 ∨ cl39.slots.size ≤ ((6 : Int32)).toNatClampNeg) := inb_of S39 ⟨by decide, by decide⟩
  obtain ⟨T39, h39, X39, e39, W39, st39⟩ := stC X36 hx hZ e36 Ar39 (j := (6 : Int32)) hin39 (g := (mkF m 89 #[iv p1, iv p2, iv p3, iv sa, iv lm, rv b4, .unset, .unset, .unset, .unset, .unset, .unset, .unset] [(.int v37), (.int (6 : Int32)), (.ref b4)])) rfl rfl (hb hby at_89)
  have V39 := Arv.set Ar39 q39 S39 M39 H39 G39 (fits_nar_char _) W39 6 rfl (Nat.le_of_ble_eq_true rfl)
  have V39' : Arv Z h39 b4 k4 .char (8 : Int32) [(.int (nar .char v7)), (.int (nar .char v12)), (.int (nar .char v17)), (.int (nar .char v22)), (.int (nar .char v27)), (.int (nar .char v32)), (.int (nar .char v37)), (.int (0 : Int32))] (.int (0 : Int32)) := V39
  have N39 := Fr.snoc X39 N36 g_b4
  have Z39 : n0 ≤ h39.size := Nat.le_trans Z34 (Keep.of_wr W39).1
  have pre40 : ∀ t, SS p e below m T39 97 #[iv p1, iv p2, iv p3, iv sa, iv lm, rv b4, .unset, .unset, .unset, .unset, .unset, .unset, .unset] [(.int (7 : Int32)), (.int p3), (.int (7 : Int32)), (.ref b4)] t → B t := fun t kk => pre38 t (by
    refine st39 _ ?_
    show SS p e below m T39 90 #[iv p1, iv p2, iv p3, iv sa, iv lm, rv b4, .unset, .unset, .unset, .unset, .unset, .unset, .unset] [] _
    refine XS.aload X39.here hx rfl (hb hby at_90) rfl rfl ?_
    show SS p e below m T39 92 #[iv p1, iv p2, iv p3, iv sa, iv lm, rv b4, .unset, .unset, .unset, .unset, .unset, .unset, .unset] [(.ref b4)] _
    refine XS.bipush X39.here hx rfl (hb hby at_92) ?_
    show SS p e below m T39 94 #[iv p1, iv p2, iv p3, iv sa, iv lm, rv b4, .unset, .unset, .unset, .unset, .unset, .unset, .unset] [(.int (7 : Int32)), (.ref b4)] _
    refine XS.iloadN X39.here hx rfl (hb hby at_94) rfl ?_
    show SS p e below m T39 95 #[iv p1, iv p2, iv p3, iv sa, iv lm, rv b4, .unset, .unset, .unset, .unset, .unset, .unset, .unset] [(.int p3), (.int (7 : Int32)), (.ref b4)] _
    refine XS.bipush X39.here hx rfl (hb hby at_95) ?_
    show SS p e below m T39 97 #[iv p1, iv p2, iv p3, iv sa, iv lm, rv b4, .unset, .unset, .unset, .unset, .unset, .unset, .unset] [(.int (7 : Int32)), (.int p3), (.int (7 : Int32)), (.ref b4)] _
    exact kk)
  obtain ⟨_, _, ⟨T41, L41, k41, n41⟩, -, X41, ⟨Lc41, hQ41, l41, y41, z41⟩, st41⟩ := Jvm.LawKit.callS X39 hx (y := (⟨"com/example/mendmark/mendmark/core/ScannerDeclarationEndPinLaw", "pick", "(II)C"⟩ : MethodName)) hown (mvT hZ (hw _ (List.mem_of_getElem? (i := 2) rfl))) (mvT hZ (hw _ (List.mem_of_getElem? (i := 3) rfl))) (mvT hZ (hw _ (List.mem_of_getElem? (i := 4) rfl))) (mvT hZ (hw _ (List.mem_of_getElem? (i := 5) rfl))) (by decide) (backOf (W := 2) (rm1 l Z a0 hw [] p3 (7 : Int32) h39 n0 Z39 ) hZ (hw _ (List.mem_of_getElem? (i := 5) rfl)) (hw _ (List.mem_of_getElem? (i := 4) rfl)) (by decide) (by decide)) (g := (mkF m 97 #[iv p1, iv p2, iv p3, iv sa, iv lm, rv b4, .unset, .unset, .unset, .unset, .unset, .unset, .unset] [(.int (7 : Int32)), (.int p3), (.int (7 : Int32)), (.ref b4)])) rfl (by rw [hml]; rfl) (argsL := [(.int p3), (.int (7 : Int32))]) (rest := [(.int (7 : Int32)), (.ref b4)]) (lenOf pd_2 rfl) rfl (by show 2 * 0 + _ ≤ _; exact Nat.le_of_eq rfl) (hb hby at_97) (fun _ _ => ⟨rfl, e39, (by decide : 1 + 0 ≤ _), (by decide : 8 + 0 ≤ _)⟩)
  dsimp only [Pt.U, Pt.locs, Pt.cells, Pt.slots] at X41 l41 y41 z41 st41 hQ41
  subst l41 y41 z41
  obtain ⟨rfl, N41q, e41⟩ := hQ41
  have N41 := Fr.app N39 N41q
  have pre43 : ∀ t, SS p e below m T41 100 #[iv p1, iv p2, iv p3, iv sa, iv lm, rv b4, .unset, .unset, .unset, .unset, .unset, .unset, .unset] [(.int (f1 p3 (7 : Int32))), (.int (7 : Int32)), (.ref b4)] t → B t := fun t kk => pre40 t (by
    refine st41 _ ?_
    show SS p e below m T41 100 #[iv p1, iv p2, iv p3, iv sa, iv lm, rv b4, .unset, .unset, .unset, .unset, .unset, .unset, .unset] [(.int (f1 p3 (7 : Int32))), (.int (7 : Int32)), (.ref b4)] _
    exact kk)
  obtain ⟨v42, g_v42⟩ : ∃ z, z = (f1 p3 (7 : Int32)) := ⟨_, rfl⟩
  rw [← g_v42] at pre43
  obtain ⟨cl44, Ar44, q44, S44, M44, H44, G44⟩ := V39'
  have hin44 : ¬ ((7 : Int32) < 0 ∨ cl44.slots.size ≤ ((7 : Int32)).toNatClampNeg) := inb_of S44 ⟨by decide, by decide⟩
  obtain ⟨T44, h44, X44, e44, W44, st44⟩ := stC X41 hx hZ e41 Ar44 (j := (7 : Int32)) hin44 (g := (mkF m 100 #[iv p1, iv p2, iv p3, iv sa, iv lm, rv b4, .unset, .unset, .unset, .unset, .unset, .unset, .unset] [(.int v42), (.int (7 : Int32)), (.ref b4)])) rfl rfl (hb hby at_100)
  have V44 := Arv.set Ar44 q44 S44 M44 H44 G44 (fits_nar_char _) W44 7 rfl (Nat.le_of_ble_eq_true rfl)
  have V44' : Arv Z h44 b4 k4 .char (8 : Int32) [(.int (nar .char v7)), (.int (nar .char v12)), (.int (nar .char v17)), (.int (nar .char v22)), (.int (nar .char v27)), (.int (nar .char v32)), (.int (nar .char v37)), (.int (nar .char v42))] (.int (0 : Int32)) := V44
  have N44 := Fr.snoc X44 N41 g_b4
  have Z44 : n0 ≤ h44.size := Nat.le_trans Z39 (Keep.of_wr W44).1
  have pre45 : ∀ t, SS p e below m T44 106 #[iv p1, iv p2, iv p3, iv sa, iv lm, rv b4, .unset, .unset, .unset, .unset, .unset, .unset, .unset] [(.int (60 : Int32)), (.int sa), (.ref b4)] t → B t := fun t kk => pre43 t (by
    refine st44 _ ?_
    show SS p e below m T44 101 #[iv p1, iv p2, iv p3, iv sa, iv lm, rv b4, .unset, .unset, .unset, .unset, .unset, .unset, .unset] [] _
    refine XS.aload X44.here hx rfl (hb hby at_101) rfl rfl ?_
    show SS p e below m T44 103 #[iv p1, iv p2, iv p3, iv sa, iv lm, rv b4, .unset, .unset, .unset, .unset, .unset, .unset, .unset] [(.ref b4)] _
    refine XS.iloadN X44.here hx rfl (hb hby at_103) rfl ?_
    show SS p e below m T44 104 #[iv p1, iv p2, iv p3, iv sa, iv lm, rv b4, .unset, .unset, .unset, .unset, .unset, .unset, .unset] [(.int sa), (.ref b4)] _
    refine XS.bipush X44.here hx rfl (hb hby at_104) ?_
    show SS p e below m T44 106 #[iv p1, iv p2, iv p3, iv sa, iv lm, rv b4, .unset, .unset, .unset, .unset, .unset, .unset, .unset] [(.int (60 : Int32)), (.int sa), (.ref b4)] _
    exact kk)
  obtain ⟨cl46, Ar46, q46, S46, M46, H46, G46⟩ := V44'
  have hin46 : ¬ (sa < 0 ∨ cl46.slots.size ≤ (sa).toNatClampNeg) := inb_of S46 (own_in8 sa (by omega))
  obtain ⟨T46, h46, X46, e46, W46, st46⟩ := stC X44 hx hZ e44 Ar46 (j := sa) hin46 (g := (mkF m 106 #[iv p1, iv p2, iv p3, iv sa, iv lm, rv b4, .unset, .unset, .unset, .unset, .unset, .unset, .unset] [(.int (60 : Int32)), (.int sa), (.ref b4)])) rfl rfl (hb hby at_106)
  have V46 := Arv.set Ar46 q46 S46 M46 H46 G46 (fits_nar_char _) W46 (sa).toNatClampNeg rfl (show _ < 8 from own_n8 _ (by omega))
  obtain ⟨vs1, hl1, V46'⟩ : ∃ l : List Int32, l.length = 8 ∧ Arv Z h46 b4 k4 .char (8 : Int32) (l.map Value.int) (.int (0 : Int32)) := ⟨([(nar .char v7), (nar .char v12), (nar .char v17), (nar .char v22), (nar .char v27), (nar .char v32), (nar .char v37), (nar .char v42)] : List Int32).set (sa).toNatClampNeg (60 : Int32), by rw [List.length_set]; rfl, by rw [List.map_set]; exact V46⟩
  have N46 := Fr.snoc X46 N44 g_b4
  have Z46 : n0 ≤ h46.size := Nat.le_trans Z44 (Keep.of_wr W46).1
  have pre47 : ∀ t, SS p e below m T46 114 #[iv p1, iv p2, iv p3, iv sa, iv lm, rv b4, .unset, .unset, .unset, .unset, .unset, .unset, .unset] [(.int (63 : Int32)), (.int (sa + (1 : Int32))), (.ref b4)] t → B t := fun t kk => pre45 t (by
    refine st46 _ ?_
    show SS p e below m T46 107 #[iv p1, iv p2, iv p3, iv sa, iv lm, rv b4, .unset, .unset, .unset, .unset, .unset, .unset, .unset] [] _
    refine XS.aload X46.here hx rfl (hb hby at_107) rfl rfl ?_
    show SS p e below m T46 109 #[iv p1, iv p2, iv p3, iv sa, iv lm, rv b4, .unset, .unset, .unset, .unset, .unset, .unset, .unset] [(.ref b4)] _
    refine XS.iloadN X46.here hx rfl (hb hby at_109) rfl ?_
    show SS p e below m T46 110 #[iv p1, iv p2, iv p3, iv sa, iv lm, rv b4, .unset, .unset, .unset, .unset, .unset, .unset, .unset] [(.int sa), (.ref b4)] _
    refine XS.iconst X46.here hx rfl (hb hby at_110) ?_
    show SS p e below m T46 111 #[iv p1, iv p2, iv p3, iv sa, iv lm, rv b4, .unset, .unset, .unset, .unset, .unset, .unset, .unset] [(.int (1 : Int32)), (.int sa), (.ref b4)] _
    refine XS.iadd X46.here hx rfl (hb hby at_111) rfl ?_
    show SS p e below m T46 112 #[iv p1, iv p2, iv p3, iv sa, iv lm, rv b4, .unset, .unset, .unset, .unset, .unset, .unset, .unset] [(.int (sa + (1 : Int32))), (.ref b4)] _
    refine XS.bipush X46.here hx rfl (hb hby at_112) ?_
    show SS p e below m T46 114 #[iv p1, iv p2, iv p3, iv sa, iv lm, rv b4, .unset, .unset, .unset, .unset, .unset, .unset, .unset] [(.int (63 : Int32)), (.int (sa + (1 : Int32))), (.ref b4)] _
    exact kk)
  obtain ⟨cl48, Ar48, q48, S48, M48, H48, G48⟩ := V46'
  have hin48 : ¬ ((sa + (1 : Int32)) < 0 ∨ cl48.slots.size ≤ ((sa + (1 : Int32))).toNatClampNeg) := inb_of S48 (own_in8 (sa + (1 : Int32)) (by have := own_inc sa (by omega); omega))
  obtain ⟨T48, h48, X48, e48, W48, st48⟩ := stC X46 hx hZ e46 Ar48 (j := (sa + (1 : Int32))) hin48 (g := (mkF m 114 #[iv p1, iv p2, iv p3, iv sa, iv lm, rv b4, .unset, .unset, .unset, .unset, .unset, .unset, .unset] [(.int (63 : Int32)), (.int (sa + (1 : Int32))), (.ref b4)])) rfl rfl (hb hby at_114)
  have V48 := Arv.set Ar48 q48 S48 M48 H48 G48 (fits_nar_char _) W48 ((sa + (1 : Int32))).toNatClampNeg rfl (by rw [List.length_map, hl1]; exact own_n8 _ (by have := own_inc sa (by omega); omega))
  obtain ⟨vs, V48'⟩ : ∃ l : List Int32, Arv Z h48 b4 k4 .char (8 : Int32) (l.map Value.int) (.int (0 : Int32)) := ⟨(vs1 : List Int32).set ((sa + (1 : Int32))).toNatClampNeg (63 : Int32), by rw [List.map_set]; exact V48⟩
  have N48 := Fr.snoc X48 N46 g_b4
  have Z48 : n0 ≤ h48.size := Nat.le_trans Z46 (Keep.of_wr W48).1
  have pre49 : ∀ t, SS p e below m T48 115 #[iv p1, iv p2, iv p3, iv sa, iv lm, rv b4, .unset, .unset, .unset, .unset, .unset, .unset, .unset] [] t → B t := fun t kk => pre47 t (by
    refine st48 _ ?_
    show SS p e below m T48 115 #[iv p1, iv p2, iv p3, iv sa, iv lm, rv b4, .unset, .unset, .unset, .unset, .unset, .unset, .unset] [] _
    exact kk)
  obtain ⟨T50, h50, X50, e50, E50, A50, D50, -, st50⟩ := newO X48 hx hZ hown (hw _ (List.mem_of_getElem? (i := 6) rfl)) (hw _ (List.mem_of_getElem? (i := 7) rfl)) (hw _ (List.mem_of_getElem? (i := 8) rfl)) e48 (g := (mkF m 115 #[iv p1, iv p2, iv p3, iv sa, iv lm, rv b4, .unset, .unset, .unset, .unset, .unset, .unset, .unset] [])) rfl (hb hby at_115) (by decide) (by decide)
  obtain ⟨b50, g50⟩ : ∃ z, z = h48.size := ⟨_, rfl⟩
  rw [← g50] at A50 D50 st50
  have F51 := V48'.ext E50
  have g_b50 : n0 ≤ b50 := Nat.le_trans Z48 (Nat.le_of_eq g50.symm)
  have Z50 : n0 ≤ h50.size := Nat.le_trans Z48 E50.1
  have F_keptColon_b50 : Fld Z h50 b50 "com/example/mendmark/mendmark/core/Scanner" "keptColon" "I" (.int (0 : Int32)) := D50 (Or.inl (hw _ (List.mem_of_getElem? (i := 16) rfl))) (ty := .int) (by decide)
  have F_text_b50 : Fld Z h50 b50 "com/example/mendmark/mendmark/core/Scanner" "text" "[C" .null := D50 (Or.inr (hw _ (List.mem_of_getElem? (i := 18) rfl))) (ty := (.array .char)) (by decide)
  have F_pos_b50 : Fld Z h50 b50 "com/example/mendmark/mendmark/core/Scanner" "pos" "I" (.int (0 : Int32)) := D50 (Or.inl (hw _ (List.mem_of_getElem? (i := 20) rfl))) (ty := .int) (by decide)
  have F_limit_b50 : Fld Z h50 b50 "com/example/mendmark/mendmark/core/Scanner" "limit" "I" (.int (0 : Int32)) := D50 (Or.inr (hw _ (List.mem_of_getElem? (i := 22) rfl))) (ty := .int) (by decide)
  have F_dtd_b50 : Fld Z h50 b50 "com/example/mendmark/mendmark/core/Scanner" "dtd" "Lcom/example/mendmark/mendmark/core/Dtd;" .null := D50 (Or.inr (hw _ (List.mem_of_getElem? (i := 24) rfl))) (ty := (.object "com/example/mendmark/mendmark/core/Dtd")) (by decide)
  have F_log_b50 : Fld Z h50 b50 "com/example/mendmark/mendmark/core/Scanner" "log" "Lcom/example/mendmark/mendmark/core/RepairLog;" .null := D50 (Or.inr (hw _ (List.mem_of_getElem? (i := 26) rfl))) (ty := (.object "com/example/mendmark/mendmark/core/RepairLog")) (by decide)
  have pre52 : ∀ t, SS p e below m T50 118 #[iv p1, iv p2, iv p3, iv sa, iv lm, rv b4, .unset, .unset, .unset, .unset, .unset, .unset, .unset] [(.ref b50)] t → B t := fun t kk => pre49 t (by
    refine st50 _ ?_
    show SS p e below m T50 118 #[iv p1, iv p2, iv p3, iv sa, iv lm, rv b4, .unset, .unset, .unset, .unset, .unset, .unset, .unset] [(.ref b50)] _
    exact kk)
  have nearr : b4 ≠ b50 := Nat.ne_of_lt (Nat.lt_of_lt_of_le V48'.lt (Nat.le_of_eq g50.symm))
  have pre53 : ∀ t, SS p e below m T50 126 #[iv p1, iv p2, iv p3, iv sa, iv lm, rv b4, .unset, .unset, .unset, .unset, .unset, .unset, .unset] [.null, .null, (.int lm), (.int sa), (.ref b4), (.ref b50), (.ref b50)] t → B t := fun t kk => pre52 t (by
    refine XS.dup X50.here hx rfl (hb hby at_118) rfl rfl ?_
    show SS p e below m T50 119 #[iv p1, iv p2, iv p3, iv sa, iv lm, rv b4, .unset, .unset, .unset, .unset, .unset, .unset, .unset] [(.ref b50), (.ref b50)] _
    refine XS.aload X50.here hx rfl (hb hby at_119) rfl rfl ?_
    show SS p e below m T50 121 #[iv p1, iv p2, iv p3, iv sa, iv lm, rv b4, .unset, .unset, .unset, .unset, .unset, .unset, .unset] [(.ref b4), (.ref b50), (.ref b50)] _
    refine XS.iloadN X50.here hx rfl (hb hby at_121) rfl ?_
    show SS p e below m T50 122 #[iv p1, iv p2, iv p3, iv sa, iv lm, rv b4, .unset, .unset, .unset, .unset, .unset, .unset, .unset] [(.int sa), (.ref b4), (.ref b50), (.ref b50)] _
    refine XS.iload X50.here hx rfl (hb hby at_122) rfl ?_
    show SS p e below m T50 124 #[iv p1, iv p2, iv p3, iv sa, iv lm, rv b4, .unset, .unset, .unset, .unset, .unset, .unset, .unset] [(.int lm), (.int sa), (.ref b4), (.ref b50), (.ref b50)] _
    refine XS.aconstNull X50.here hx rfl (hb hby at_124) ?_
    show SS p e below m T50 125 #[iv p1, iv p2, iv p3, iv sa, iv lm, rv b4, .unset, .unset, .unset, .unset, .unset, .unset, .unset] [.null, (.int lm), (.int sa), (.ref b4), (.ref b50), (.ref b50)] _
    refine XS.aconstNull X50.here hx rfl (hb hby at_125) ?_
    show SS p e below m T50 126 #[iv p1, iv p2, iv p3, iv sa, iv lm, rv b4, .unset, .unset, .unset, .unset, .unset, .unset, .unset] [.null, .null, (.int lm), (.int sa), (.ref b4), (.ref b50), (.ref b50)] _
    exact kk)
  obtain ⟨_, _, ⟨T54, L54, k54, n54⟩, -, X54, ⟨Lc54, hQ54, l54, y54, z54⟩, st54⟩ := X50.specialBack hx (y := (⟨"com/example/mendmark/mendmark/core/Scanner", "<init>", "([CIILcom/example/mendmark/mendmark/core/Dtd;Lcom/example/mendmark/mendmark/core/RepairLog;)V"⟩ : MethodName)) rfl hown (mvT hZ (hw _ (List.mem_of_getElem? (i := 9) rfl))) (mvT hZ (hw _ (List.mem_of_getElem? (i := 10) rfl))) (mvT hZ (hw _ (List.mem_of_getElem? (i := 11) rfl))) (by decide) (backOf (W := 1) (rm2 l Z a0 hw [] b50 b4 sa lm h50 n0 Z50 A50 g_b50 F_keptColon_b50 F_text_b50 F_pos_b50 F_limit_b50 F_dtd_b50 F_log_b50) hZ (hw _ (List.mem_of_getElem? (i := 11) rfl)) (hw _ (List.mem_of_getElem? (i := 8) rfl)) (by decide) (by decide)) (g := (mkF m 126 #[iv p1, iv p2, iv p3, iv sa, iv lm, rv b4, .unset, .unset, .unset, .unset, .unset, .unset, .unset] [.null, .null, (.int lm), (.int sa), (.ref b4), (.ref b50), (.ref b50)])) rfl (by rw [hml]; rfl) (Steps.refl _) (a := b50) (argsL := [(.ref b4), (.int sa), (.int lm), .null, .null]) (rest := [(.ref b50)]) (lenOf pd_3 rfl) rfl (by show 2 * 0 + _ ≤ _; exact Nat.le_of_eq rfl) (hb hby at_126) (fun _ _ => ⟨rfl, e50, (by decide : 2 + 0 ≤ _), (by decide : 14 + 0 ≤ _)⟩)
  dsimp only [Pt.U, Pt.locs, Pt.cells, Pt.slots] at X54 l54 y54 z54 st54 hQ54
  subst l54 y54 z54
  obtain ⟨rfl, N54q, K54, E54, Ft54, Fp54, Fl54⟩ := hQ54
  have Z54 : n0 ≤ T54.heap.size := Nat.le_trans Z50 K54.1
  have V54 := F51.keep K54 (by intro q; rw [List.mem_singleton] at q; exact nearr q)
  have N54 := Fr.app N48 N54q
  have pre55 : ∀ t, SS p e below m T54 134 #[iv p1, iv p2, iv p3, iv sa, iv lm, rv b4, rv b50, .unset, .unset, .unset, .unset, .unset, .unset] [(.int sa), (.ref b50)] t → B t := fun t kk => pre53 t (by
    refine st54.trans ?_
    show SS p e below m T54 129 #[iv p1, iv p2, iv p3, iv sa, iv lm, rv b4, .unset, .unset, .unset, .unset, .unset, .unset, .unset] [(.ref b50)] _
    refine XS.astore X54.here hx rfl (hb hby at_129) rfl rfl (l' := #[iv p1, iv p2, iv p3, iv sa, iv lm, rv b4, rv b50, .unset, .unset, .unset, .unset, .unset, .unset]) rfl ?_
    show SS p e below m T54 131 #[iv p1, iv p2, iv p3, iv sa, iv lm, rv b4, rv b50, .unset, .unset, .unset, .unset, .unset, .unset] [] _
    refine XS.aload X54.here hx rfl (hb hby at_131) rfl rfl ?_
    show SS p e below m T54 133 #[iv p1, iv p2, iv p3, iv sa, iv lm, rv b4, rv b50, .unset, .unset, .unset, .unset, .unset, .unset] [(.ref b50)] _
    refine XS.iloadN X54.here hx rfl (hb hby at_133) rfl ?_
    show SS p e below m T54 134 #[iv p1, iv p2, iv p3, iv sa, iv lm, rv b4, rv b50, .unset, .unset, .unset, .unset, .unset, .unset] [(.int sa), (.ref b50)] _
    exact kk)
  obtain ⟨cq56, kq56, q56a, q56b, q56c⟩ := isOf hZ rfl E54
  obtain ⟨_, _, ⟨T56, L56, k56, n56⟩, -, X56, ⟨Lc56, hQ56, l56, y56, z56⟩, st56⟩ := X54.virtualBack hx (y := (⟨"com/example/mendmark/mendmark/core/Scanner", "declarationEnd", "(I)I"⟩ : MethodName)) (z := (⟨"com/example/mendmark/mendmark/core/Scanner", "declarationEnd", "(I)I"⟩ : MethodName)) hown (mvT hZ (hw _ (List.mem_of_getElem? (i := 27) rfl))) (mvT hZ (hw _ (List.mem_of_getElem? (i := 28) rfl))) (notFace_of_selects (args := #[]) (mvT hZ (hw _ (List.mem_of_getElem? (i := 30) rfl)))) (mvT hZ (hw _ (List.mem_of_getElem? (i := 30) rfl))) (mvT hZ (hw _ (List.mem_of_getElem? (i := 29) rfl))) (by decide) (backOf (W := 0) (rm4 l Z a0 hw [] b50 sa b4 lm k4 vs T54.heap n0 Z54 Fl54 Ft54 V54 hlm.2 hi0) hZ (hw _ (List.mem_of_getElem? (i := 31) rfl)) (hw _ (List.mem_of_getElem? (i := 8) rfl)) (by decide) (by decide)) q56a q56c (g := (mkF m 134 #[iv p1, iv p2, iv p3, iv sa, iv lm, rv b4, rv b50, .unset, .unset, .unset, .unset, .unset, .unset] [(.int sa), (.ref b50)])) rfl (by rw [hml]; rfl) (Steps.refl _) (argsL := [(.int sa)]) (rest := []) (lenOf pd_4 rfl) rfl (by show 2 * 0 + _ ≤ _; exact Nat.le_of_eq rfl) (hb hby at_134) (fun _ _ => ⟨rfl, rfl, (by decide : 2 + 0 ≤ _), (by decide : 14 + 0 ≤ _)⟩)
  dsimp only [Pt.U, Pt.locs, Pt.cells, Pt.slots] at X56 l56 y56 z56 st56 hQ56
  subst l56 y56 z56
  obtain ⟨rfl, N56q, e56⟩ := hQ56
  have N56 := Fr.app N54 N56q
  have pre57 : ∀ t, SS p e below m T56 137 #[iv p1, iv p2, iv p3, iv sa, iv lm, rv b4, rv b50, .unset, .unset, .unset, .unset, .unset, .unset] [(.int (f4 sa lm vs))] t → B t := fun t kk => pre55 t (by
    refine st56.trans ?_
    show SS p e below m T56 137 #[iv p1, iv p2, iv p3, iv sa, iv lm, rv b4, rv b50, .unset, .unset, .unset, .unset, .unset, .unset] [(.int (f4 sa lm vs))] _
    exact kk)
  obtain ⟨got, g_got⟩ : ∃ z, z = (f4 sa lm vs) := ⟨_, rfl⟩
  rw [← g_got] at pre57
  have pre58 : ∀ t, SS p e below m T56 152 #[iv p1, iv p2, iv p3, iv sa, iv lm, rv b4, rv b50, iv got, iv (sa + (2 : Int32)), .unset, .unset, .unset, .unset] [(.int (60 : Int32)), (.int lm), (.int (sa + (2 : Int32))), (.ref b4)] t → B t := fun t kk => pre57 t (by
    refine XS.istore X56.here hx rfl (hb hby at_137) rfl (l' := #[iv p1, iv p2, iv p3, iv sa, iv lm, rv b4, rv b50, iv got, .unset, .unset, .unset, .unset, .unset]) rfl ?_
    show SS p e below m T56 139 #[iv p1, iv p2, iv p3, iv sa, iv lm, rv b4, rv b50, iv got, .unset, .unset, .unset, .unset, .unset] [] _
    refine XS.iloadN X56.here hx rfl (hb hby at_139) rfl ?_
    show SS p e below m T56 140 #[iv p1, iv p2, iv p3, iv sa, iv lm, rv b4, rv b50, iv got, .unset, .unset, .unset, .unset, .unset] [(.int sa)] _
    refine XS.iconst X56.here hx rfl (hb hby at_140) ?_
    show SS p e below m T56 141 #[iv p1, iv p2, iv p3, iv sa, iv lm, rv b4, rv b50, iv got, .unset, .unset, .unset, .unset, .unset] [(.int (2 : Int32)), (.int sa)] _
    refine XS.iadd X56.here hx rfl (hb hby at_141) rfl ?_
    show SS p e below m T56 142 #[iv p1, iv p2, iv p3, iv sa, iv lm, rv b4, rv b50, iv got, .unset, .unset, .unset, .unset, .unset] [(.int (sa + (2 : Int32)))] _
    refine XS.istore X56.here hx rfl (hb hby at_142) rfl (l' := #[iv p1, iv p2, iv p3, iv sa, iv lm, rv b4, rv b50, iv got, iv (sa + (2 : Int32)), .unset, .unset, .unset, .unset]) rfl ?_
    show SS p e below m T56 144 #[iv p1, iv p2, iv p3, iv sa, iv lm, rv b4, rv b50, iv got, iv (sa + (2 : Int32)), .unset, .unset, .unset, .unset] [] _
    refine XS.aload X56.here hx rfl (hb hby at_144) rfl rfl ?_
    show SS p e below m T56 146 #[iv p1, iv p2, iv p3, iv sa, iv lm, rv b4, rv b50, iv got, iv (sa + (2 : Int32)), .unset, .unset, .unset, .unset] [(.ref b4)] _
    refine XS.iload X56.here hx rfl (hb hby at_146) rfl ?_
    show SS p e below m T56 148 #[iv p1, iv p2, iv p3, iv sa, iv lm, rv b4, rv b50, iv got, iv (sa + (2 : Int32)), .unset, .unset, .unset, .unset] [(.int (sa + (2 : Int32))), (.ref b4)] _
    refine XS.iload X56.here hx rfl (hb hby at_148) rfl ?_
    show SS p e below m T56 150 #[iv p1, iv p2, iv p3, iv sa, iv lm, rv b4, rv b50, iv got, iv (sa + (2 : Int32)), .unset, .unset, .unset, .unset] [(.int lm), (.int (sa + (2 : Int32))), (.ref b4)] _
    refine XS.bipush X56.here hx rfl (hb hby at_150) ?_
    show SS p e below m T56 152 #[iv p1, iv p2, iv p3, iv sa, iv lm, rv b4, rv b50, iv got, iv (sa + (2 : Int32)), .unset, .unset, .unset, .unset] [(.int (60 : Int32)), (.int lm), (.int (sa + (2 : Int32))), (.ref b4)] _
    exact kk)
  obtain ⟨_, _, ⟨T59, L59, k59, n59⟩, -, X59, ⟨Lc59, hQ59, l59, y59, z59⟩, st59⟩ := Jvm.LawKit.callS X56 hx (y := (⟨"com/example/mendmark/mendmark/core/ScannerDeclarationEndPinLaw", "firstIndex", "([CIIC)I"⟩ : MethodName)) hown (mvT hZ (hw _ (List.mem_of_getElem? (i := 32) rfl))) (mvT hZ (hw _ (List.mem_of_getElem? (i := 33) rfl))) (mvT hZ (hw _ (List.mem_of_getElem? (i := 4) rfl))) (mvT hZ (hw _ (List.mem_of_getElem? (i := 34) rfl))) (by decide) (backOf (W := 0) (rm5 l Z a0 hw [] b4 (sa + (2 : Int32)) lm (60 : Int32) k4 vs T54.heap n0 Z54 V54 hlm.2 hfrom.1) hZ (hw _ (List.mem_of_getElem? (i := 34) rfl)) (hw _ (List.mem_of_getElem? (i := 4) rfl)) (by decide) (by decide)) (g := (mkF m 152 #[iv p1, iv p2, iv p3, iv sa, iv lm, rv b4, rv b50, iv got, iv (sa + (2 : Int32)), .unset, .unset, .unset, .unset] [(.int (60 : Int32)), (.int lm), (.int (sa + (2 : Int32))), (.ref b4)])) rfl (by rw [hml]; rfl) (argsL := [(.ref b4), (.int (sa + (2 : Int32))), (.int lm), (.int (60 : Int32))]) (rest := []) (lenOf pd_5 rfl) rfl (by show 2 * 0 + _ ≤ _; exact Nat.le_of_eq rfl) (hb hby at_152) (fun _ _ => ⟨rfl, e56, (by decide : 2 + 0 ≤ _), (by decide : 14 + 0 ≤ _)⟩)
  dsimp only [Pt.U, Pt.locs, Pt.cells, Pt.slots] at X59 l59 y59 z59 st59 hQ59
  subst l59 y59 z59
  obtain ⟨rfl, N59q, e59⟩ := hQ59
  have N59 := Fr.app N56 N59q
  have pre60 : ∀ t, SS p e below m T59 155 #[iv p1, iv p2, iv p3, iv sa, iv lm, rv b4, rv b50, iv got, iv (sa + (2 : Int32)), .unset, .unset, .unset, .unset] [(.int (f5 (sa + (2 : Int32)) lm (60 : Int32) vs))] t → B t := fun t kk => pre58 t (by
    refine st59 _ ?_
    show SS p e below m T59 155 #[iv p1, iv p2, iv p3, iv sa, iv lm, rv b4, rv b50, iv got, iv (sa + (2 : Int32)), .unset, .unset, .unset, .unset] [(.int (f5 (sa + (2 : Int32)) lm (60 : Int32) vs))] _
    exact kk)
  obtain ⟨sp, g_sp⟩ : ∃ z, z = (f5 (sa + (2 : Int32)) lm (60 : Int32) vs) := ⟨_, rfl⟩
  rw [← g_sp] at pre60
  have hsp := own_fi vs (sa + (2 : Int32)) lm (60 : Int32) hfrom.1 hlm.2 (by omega)
  rw [← g_sp] at hsp
  have pre61 : ∀ t, SS p e below m T59 163 #[iv p1, iv p2, iv p3, iv sa, iv lm, rv b4, rv b50, iv got, iv (sa + (2 : Int32)), iv sp, .unset, .unset, .unset] [(.int sp), (.int (sa + (2 : Int32))), (.ref b4)] t → B t := fun t kk => pre60 t (by
    refine XS.istore X59.here hx rfl (hb hby at_155) rfl (l' := #[iv p1, iv p2, iv p3, iv sa, iv lm, rv b4, rv b50, iv got, iv (sa + (2 : Int32)), iv sp, .unset, .unset, .unset]) rfl ?_
    show SS p e below m T59 157 #[iv p1, iv p2, iv p3, iv sa, iv lm, rv b4, rv b50, iv got, iv (sa + (2 : Int32)), iv sp, .unset, .unset, .unset] [] _
    refine XS.aload X59.here hx rfl (hb hby at_157) rfl rfl ?_
    show SS p e below m T59 159 #[iv p1, iv p2, iv p3, iv sa, iv lm, rv b4, rv b50, iv got, iv (sa + (2 : Int32)), iv sp, .unset, .unset, .unset] [(.ref b4)] _
    refine XS.iload X59.here hx rfl (hb hby at_159) rfl ?_
    show SS p e below m T59 161 #[iv p1, iv p2, iv p3, iv sa, iv lm, rv b4, rv b50, iv got, iv (sa + (2 : Int32)), iv sp, .unset, .unset, .unset] [(.int (sa + (2 : Int32))), (.ref b4)] _
    refine XS.iload X59.here hx rfl (hb hby at_161) rfl ?_
    show SS p e below m T59 163 #[iv p1, iv p2, iv p3, iv sa, iv lm, rv b4, rv b50, iv got, iv (sa + (2 : Int32)), iv sp, .unset, .unset, .unset] [(.int sp), (.int (sa + (2 : Int32))), (.ref b4)] _
    exact kk)
  obtain ⟨_, _, ⟨T62, L62, k62, n62⟩, -, X62, ⟨Lc62, hQ62, l62, y62, z62⟩, st62⟩ := Jvm.LawKit.callS X59 hx (y := (⟨"com/example/mendmark/mendmark/core/ScannerDeclarationEndPinLaw", "firstClose", "([CII)I"⟩ : MethodName)) hown (mvT hZ (hw _ (List.mem_of_getElem? (i := 38) rfl))) (mvT hZ (hw _ (List.mem_of_getElem? (i := 39) rfl))) (mvT hZ (hw _ (List.mem_of_getElem? (i := 4) rfl))) (mvT hZ (hw _ (List.mem_of_getElem? (i := 40) rfl))) (by decide) (backOf (W := 0) (rm7 l Z a0 hw [] b4 (sa + (2 : Int32)) sp k4 vs T54.heap n0 Z54 V54 hsp.2.1 hfrom.1) hZ (hw _ (List.mem_of_getElem? (i := 40) rfl)) (hw _ (List.mem_of_getElem? (i := 4) rfl)) (by decide) (by decide)) (g := (mkF m 163 #[iv p1, iv p2, iv p3, iv sa, iv lm, rv b4, rv b50, iv got, iv (sa + (2 : Int32)), iv sp, .unset, .unset, .unset] [(.int sp), (.int (sa + (2 : Int32))), (.ref b4)])) rfl (by rw [hml]; rfl) (argsL := [(.ref b4), (.int (sa + (2 : Int32))), (.int sp)]) (rest := []) (lenOf pd_6 rfl) rfl (by show 2 * 0 + _ ≤ _; exact Nat.le_of_eq rfl) (hb hby at_163) (fun _ _ => ⟨rfl, e59, (by decide : 2 + 0 ≤ _), (by decide : 14 + 0 ≤ _)⟩)
  dsimp only [Pt.U, Pt.locs, Pt.cells, Pt.slots] at X62 l62 y62 z62 st62 hQ62
  subst l62 y62 z62
  obtain ⟨rfl, N62q, e62⟩ := hQ62
  have N62 := Fr.app N59 N62q
  have pre63 : ∀ t, SS p e below m T62 166 #[iv p1, iv p2, iv p3, iv sa, iv lm, rv b4, rv b50, iv got, iv (sa + (2 : Int32)), iv sp, .unset, .unset, .unset] [(.int (f7 (sa + (2 : Int32)) sp vs))] t → B t := fun t kk => pre61 t (by
    refine st62 _ ?_
    show SS p e below m T62 166 #[iv p1, iv p2, iv p3, iv sa, iv lm, rv b4, rv b50, iv got, iv (sa + (2 : Int32)), iv sp, .unset, .unset, .unset] [(.int (f7 (sa + (2 : Int32)) sp vs))] _
    exact kk)
  obtain ⟨cl, g_cl⟩ : ∃ z, z = (f7 (sa + (2 : Int32)) sp vs) := ⟨_, rfl⟩
  rw [← g_cl] at pre63
  have hcl := own_fc vs (sa + (2 : Int32)) sp hfrom.1 hsp.2.1
  rw [← g_cl] at hcl
  have pre64 : ∀ t, SS p e below m T62 176 #[iv p1, iv p2, iv p3, iv sa, iv lm, rv b4, rv b50, iv got, iv (sa + (2 : Int32)), iv sp, iv cl, .unset, .unset] [(.int (62 : Int32)), (.int sp), (.int (sa + (2 : Int32))), (.ref b4)] t → B t := fun t kk => pre63 t (by
    refine XS.istore X62.here hx rfl (hb hby at_166) rfl (l' := #[iv p1, iv p2, iv p3, iv sa, iv lm, rv b4, rv b50, iv got, iv (sa + (2 : Int32)), iv sp, iv cl, .unset, .unset]) rfl ?_
    show SS p e below m T62 168 #[iv p1, iv p2, iv p3, iv sa, iv lm, rv b4, rv b50, iv got, iv (sa + (2 : Int32)), iv sp, iv cl, .unset, .unset] [] _
    refine XS.aload X62.here hx rfl (hb hby at_168) rfl rfl ?_
    show SS p e below m T62 170 #[iv p1, iv p2, iv p3, iv sa, iv lm, rv b4, rv b50, iv got, iv (sa + (2 : Int32)), iv sp, iv cl, .unset, .unset] [(.ref b4)] _
    refine XS.iload X62.here hx rfl (hb hby at_170) rfl ?_
    show SS p e below m T62 172 #[iv p1, iv p2, iv p3, iv sa, iv lm, rv b4, rv b50, iv got, iv (sa + (2 : Int32)), iv sp, iv cl, .unset, .unset] [(.int (sa + (2 : Int32))), (.ref b4)] _
    refine XS.iload X62.here hx rfl (hb hby at_172) rfl ?_
    show SS p e below m T62 174 #[iv p1, iv p2, iv p3, iv sa, iv lm, rv b4, rv b50, iv got, iv (sa + (2 : Int32)), iv sp, iv cl, .unset, .unset] [(.int sp), (.int (sa + (2 : Int32))), (.ref b4)] _
    refine XS.bipush X62.here hx rfl (hb hby at_174) ?_
    show SS p e below m T62 176 #[iv p1, iv p2, iv p3, iv sa, iv lm, rv b4, rv b50, iv got, iv (sa + (2 : Int32)), iv sp, iv cl, .unset, .unset] [(.int (62 : Int32)), (.int sp), (.int (sa + (2 : Int32))), (.ref b4)] _
    exact kk)
  obtain ⟨_, _, ⟨T65, L65, k65, n65⟩, -, X65, ⟨Lc65, hQ65, l65, y65, z65⟩, st65⟩ := Jvm.LawKit.callS X62 hx (y := (⟨"com/example/mendmark/mendmark/core/ScannerDeclarationEndPinLaw", "firstIndex", "([CIIC)I"⟩ : MethodName)) hown (mvT hZ (hw _ (List.mem_of_getElem? (i := 32) rfl))) (mvT hZ (hw _ (List.mem_of_getElem? (i := 33) rfl))) (mvT hZ (hw _ (List.mem_of_getElem? (i := 4) rfl))) (mvT hZ (hw _ (List.mem_of_getElem? (i := 34) rfl))) (by decide) (backOf (W := 0) (rm5 l Z a0 hw [] b4 (sa + (2 : Int32)) sp (62 : Int32) k4 vs T54.heap n0 Z54 V54 hsp.2.1 hfrom.1) hZ (hw _ (List.mem_of_getElem? (i := 34) rfl)) (hw _ (List.mem_of_getElem? (i := 4) rfl)) (by decide) (by decide)) (g := (mkF m 176 #[iv p1, iv p2, iv p3, iv sa, iv lm, rv b4, rv b50, iv got, iv (sa + (2 : Int32)), iv sp, iv cl, .unset, .unset] [(.int (62 : Int32)), (.int sp), (.int (sa + (2 : Int32))), (.ref b4)])) rfl (by rw [hml]; rfl) (argsL := [(.ref b4), (.int (sa + (2 : Int32))), (.int sp), (.int (62 : Int32))]) (rest := []) (lenOf pd_5 rfl) rfl (by show 2 * 0 + _ ≤ _; exact Nat.le_of_eq rfl) (hb hby at_176) (fun _ _ => ⟨rfl, e62, (by decide : 2 + 0 ≤ _), (by decide : 14 + 0 ≤ _)⟩)
  dsimp only [Pt.U, Pt.locs, Pt.cells, Pt.slots] at X65 l65 y65 z65 st65 hQ65
  subst l65 y65 z65
  obtain ⟨rfl, N65q, e65⟩ := hQ65
  have N65 := Fr.app N62 N65q
  have pre66 : ∀ t, SS p e below m T65 179 #[iv p1, iv p2, iv p3, iv sa, iv lm, rv b4, rv b50, iv got, iv (sa + (2 : Int32)), iv sp, iv cl, .unset, .unset] [(.int (f5 (sa + (2 : Int32)) sp (62 : Int32) vs))] t → B t := fun t kk => pre64 t (by
    refine st65 _ ?_
    show SS p e below m T65 179 #[iv p1, iv p2, iv p3, iv sa, iv lm, rv b4, rv b50, iv got, iv (sa + (2 : Int32)), iv sp, iv cl, .unset, .unset] [(.int (f5 (sa + (2 : Int32)) sp (62 : Int32) vs))] _
    exact kk)
  obtain ⟨gg, g_gg⟩ : ∃ z, z = (f5 (sa + (2 : Int32)) sp (62 : Int32) vs) := ⟨_, rfl⟩
  rw [← g_gg] at pre66
  have hgg := own_fi vs (sa + (2 : Int32)) sp (62 : Int32) hfrom.1 hsp.2.1 hsp.1
  rw [← g_gg] at hgg
  have pre67 : ∀ t, SS p e below m T65 183 #[iv p1, iv p2, iv p3, iv sa, iv lm, rv b4, rv b50, iv got, iv (sa + (2 : Int32)), iv sp, iv cl, iv gg, .unset] [(.int cl)] t → B t := fun t kk => pre66 t (by
    refine XS.istore X65.here hx rfl (hb hby at_179) rfl (l' := #[iv p1, iv p2, iv p3, iv sa, iv lm, rv b4, rv b50, iv got, iv (sa + (2 : Int32)), iv sp, iv cl, iv gg, .unset]) rfl ?_
    show SS p e below m T65 181 #[iv p1, iv p2, iv p3, iv sa, iv lm, rv b4, rv b50, iv got, iv (sa + (2 : Int32)), iv sp, iv cl, iv gg, .unset] [] _
    refine XS.iload X65.here hx rfl (hb hby at_181) rfl ?_
    show SS p e below m T65 183 #[iv p1, iv p2, iv p3, iv sa, iv lm, rv b4, rv b50, iv got, iv (sa + (2 : Int32)), iv sp, iv cl, iv gg, .unset] [(.int cl)] _
    exact kk)
  by_cases hc68 : cl < (0 : Int32)
  · have pre69 : ∀ t, SS p e below m T65 199 #[iv p1, iv p2, iv p3, iv sa, iv lm, rv b4, rv b50, iv got, iv (sa + (2 : Int32)), iv sp, iv cl, iv gg, .unset] [(.int sp), (.int gg)] t → B t := fun t kk => pre67 t (by
      refine XS.ifYes X65.here hx rfl (pc0 := 183) (pc' := 195) rfl (hb hby at_183) rfl ((if0 _ _).trans (tlt hc68).1) (by decide) (by decide) ?_
      show SS p e below m T65 195 #[iv p1, iv p2, iv p3, iv sa, iv lm, rv b4, rv b50, iv got, iv (sa + (2 : Int32)), iv sp, iv cl, iv gg, .unset] [] _
      refine XS.iload X65.here hx rfl (hb hby at_195) rfl ?_
      show SS p e below m T65 197 #[iv p1, iv p2, iv p3, iv sa, iv lm, rv b4, rv b50, iv got, iv (sa + (2 : Int32)), iv sp, iv cl, iv gg, .unset] [(.int gg)] _
      refine XS.iload X65.here hx rfl (hb hby at_197) rfl ?_
      show SS p e below m T65 199 #[iv p1, iv p2, iv p3, iv sa, iv lm, rv b4, rv b50, iv got, iv (sa + (2 : Int32)), iv sp, iv cl, iv gg, .unset] [(.int sp), (.int gg)] _
      exact kk)
    by_cases hc70 : gg < sp
    · have pre71 : ∀ t, SS p e below m T65 219 #[iv p1, iv p2, iv p3, iv sa, iv lm, rv b4, rv b50, iv got, iv (sa + (2 : Int32)), iv sp, iv cl, iv gg, iv (gg + (1 : Int32))] [(.int (gg + (1 : Int32))), (.int got)] t → B t := fun t kk => pre69 t (by
        refine XS.icmpNo X65.here hx rfl (hb hby at_199) rfl (tlt hc70).2.1 ?_
        show SS p e below m T65 202 #[iv p1, iv p2, iv p3, iv sa, iv lm, rv b4, rv b50, iv got, iv (sa + (2 : Int32)), iv sp, iv cl, iv gg, .unset] [] _
        refine XS.iload X65.here hx rfl (hb hby at_202) rfl ?_
        show SS p e below m T65 204 #[iv p1, iv p2, iv p3, iv sa, iv lm, rv b4, rv b50, iv got, iv (sa + (2 : Int32)), iv sp, iv cl, iv gg, .unset] [(.int gg)] _
        refine XS.iconst X65.here hx rfl (hb hby at_204) ?_
        show SS p e below m T65 205 #[iv p1, iv p2, iv p3, iv sa, iv lm, rv b4, rv b50, iv got, iv (sa + (2 : Int32)), iv sp, iv cl, iv gg, .unset] [(.int (1 : Int32)), (.int gg)] _
        refine XS.iadd X65.here hx rfl (hb hby at_205) rfl ?_
        show SS p e below m T65 206 #[iv p1, iv p2, iv p3, iv sa, iv lm, rv b4, rv b50, iv got, iv (sa + (2 : Int32)), iv sp, iv cl, iv gg, .unset] [(.int (gg + (1 : Int32)))] _
        refine XS.istore X65.here hx rfl (hb hby at_206) rfl (l' := #[iv p1, iv p2, iv p3, iv sa, iv lm, rv b4, rv b50, iv got, iv (sa + (2 : Int32)), iv sp, iv cl, iv gg, iv (gg + (1 : Int32))]) rfl ?_
        show SS p e below m T65 208 #[iv p1, iv p2, iv p3, iv sa, iv lm, rv b4, rv b50, iv got, iv (sa + (2 : Int32)), iv sp, iv cl, iv gg, iv (gg + (1 : Int32))] [] _
        refine XS.goto X65.here hx rfl (pc0 := 208) (pc' := 215) rfl (hb hby at_208) (by decide) (by decide) ?_
        show SS p e below m T65 215 #[iv p1, iv p2, iv p3, iv sa, iv lm, rv b4, rv b50, iv got, iv (sa + (2 : Int32)), iv sp, iv cl, iv gg, iv (gg + (1 : Int32))] [] _
        refine XS.iload X65.here hx rfl (hb hby at_215) rfl ?_
        show SS p e below m T65 217 #[iv p1, iv p2, iv p3, iv sa, iv lm, rv b4, rv b50, iv got, iv (sa + (2 : Int32)), iv sp, iv cl, iv gg, iv (gg + (1 : Int32))] [(.int got)] _
        refine XS.iload X65.here hx rfl (hb hby at_217) rfl ?_
        show SS p e below m T65 219 #[iv p1, iv p2, iv p3, iv sa, iv lm, rv b4, rv b50, iv got, iv (sa + (2 : Int32)), iv sp, iv cl, iv gg, iv (gg + (1 : Int32))] [(.int (gg + (1 : Int32))), (.int got)] _
        exact kk)
      have hq72 : got = (gg + (1 : Int32)) := by
        rw [g_got]
        refine (own_de vs (sa + (2 : Int32)) lm sp cl gg sa hfrom.1 hlm.2 (by omega) rfl hsp hcl hgg).trans ?_
        rw [if_pos hc68, if_pos hc70]
      have pre73 : ∀ t, SS p e below m T65 224 #[iv p1, iv p2, iv p3, iv sa, iv lm, rv b4, rv b50, iv got, iv (sa + (2 : Int32)), iv sp, iv cl, iv gg, iv (gg + (1 : Int32))] [(.ref b50)] t → B t := fun t kk => pre71 t (by
        refine XS.icmpNo X65.here hx rfl (hb hby at_219) rfl (teq hq72).2 ?_
        show SS p e below m T65 222 #[iv p1, iv p2, iv p3, iv sa, iv lm, rv b4, rv b50, iv got, iv (sa + (2 : Int32)), iv sp, iv cl, iv gg, iv (gg + (1 : Int32))] [] _
        refine XS.aload X65.here hx rfl (hb hby at_222) rfl rfl ?_
        show SS p e below m T65 224 #[iv p1, iv p2, iv p3, iv sa, iv lm, rv b4, rv b50, iv got, iv (sa + (2 : Int32)), iv sp, iv cl, iv gg, iv (gg + (1 : Int32))] [(.ref b50)] _
        exact kk)
      obtain ⟨T74, X74, e74, st74⟩ := getF X65 hx hZ hown (host := "") (Or.inl (hw _ (List.mem_of_getElem? (i := 44) rfl))) Via.refl e65 Fp54 (g := (mkF m 224 #[iv p1, iv p2, iv p3, iv sa, iv lm, rv b4, rv b50, iv got, iv (sa + (2 : Int32)), iv sp, iv cl, iv gg, iv (gg + (1 : Int32))] [(.ref b50)])) rfl rfl (hb hby at_224)
      have pre75 : ∀ t, SS p e below m T74 236 #[iv p1, iv p2, iv p3, iv sa, iv lm, rv b4, rv b50, iv got, iv (sa + (2 : Int32)), iv sp, iv cl, iv gg, iv (gg + (1 : Int32))] [(.int (1 : Int32))] t → B t := fun t kk => pre73 t (by
        refine st74 _ ?_
        show SS p e below m T74 227 #[iv p1, iv p2, iv p3, iv sa, iv lm, rv b4, rv b50, iv got, iv (sa + (2 : Int32)), iv sp, iv cl, iv gg, iv (gg + (1 : Int32))] [(.int sa)] _
        refine XS.iloadN X74.here hx rfl (hb hby at_227) rfl ?_
        show SS p e below m T74 228 #[iv p1, iv p2, iv p3, iv sa, iv lm, rv b4, rv b50, iv got, iv (sa + (2 : Int32)), iv sp, iv cl, iv gg, iv (gg + (1 : Int32))] [(.int sa), (.int sa)] _
        refine XS.icmpNo X74.here hx rfl (hb hby at_228) rfl (teq (rfl : sa = sa)).2 ?_
        show SS p e below m T74 231 #[iv p1, iv p2, iv p3, iv sa, iv lm, rv b4, rv b50, iv got, iv (sa + (2 : Int32)), iv sp, iv cl, iv gg, iv (gg + (1 : Int32))] [] _
        refine XS.iconst X74.here hx rfl (hb hby at_231) ?_
        show SS p e below m T74 232 #[iv p1, iv p2, iv p3, iv sa, iv lm, rv b4, rv b50, iv got, iv (sa + (2 : Int32)), iv sp, iv cl, iv gg, iv (gg + (1 : Int32))] [(.int (1 : Int32))] _
        refine XS.goto X74.here hx rfl (pc0 := 232) (pc' := 236) rfl (hb hby at_232) (by decide) (by decide) ?_
        show SS p e below m T74 236 #[iv p1, iv p2, iv p3, iv sa, iv lm, rv b4, rv b50, iv got, iv (sa + (2 : Int32)), iv sp, iv cl, iv gg, iv (gg + (1 : Int32))] [(.int (1 : Int32))] _
        exact kk)
      obtain ⟨fs, hr, hrun, hended, hW, hsame⟩ := X74.leave (v := some (.int (1 : Int32))) (fun h => by rw [Bd.returns] at h; cases h)
      refine ⟨_, _, hB _ (pre75 _ ?_), hrun, hended, _, _, rfl, ?_, ⟨_, rfl⟩, hW, hsame.mono (by decide) (by decide)⟩
      · exact retN X74 hx (t := .boolean) Bd.returns (by simp) (hb hby at_236) hr
      · exact ⟨rfl, N65⟩
    · have pre76 : ∀ t, SS p e below m T65 219 #[iv p1, iv p2, iv p3, iv sa, iv lm, rv b4, rv b50, iv got, iv (sa + (2 : Int32)), iv sp, iv cl, iv gg, iv sp] [(.int sp), (.int got)] t → B t := fun t kk => pre69 t (by
        refine XS.icmpYes X65.here hx rfl (pc0 := 199) (pc' := 211) rfl (hb hby at_199) rfl (flt hc70).2.1 (by decide) (by decide) ?_
        show SS p e below m T65 211 #[iv p1, iv p2, iv p3, iv sa, iv lm, rv b4, rv b50, iv got, iv (sa + (2 : Int32)), iv sp, iv cl, iv gg, .unset] [] _
        refine XS.iload X65.here hx rfl (hb hby at_211) rfl ?_
        show SS p e below m T65 213 #[iv p1, iv p2, iv p3, iv sa, iv lm, rv b4, rv b50, iv got, iv (sa + (2 : Int32)), iv sp, iv cl, iv gg, .unset] [(.int sp)] _
        refine XS.istore X65.here hx rfl (hb hby at_213) rfl (l' := #[iv p1, iv p2, iv p3, iv sa, iv lm, rv b4, rv b50, iv got, iv (sa + (2 : Int32)), iv sp, iv cl, iv gg, iv sp]) rfl ?_
        show SS p e below m T65 215 #[iv p1, iv p2, iv p3, iv sa, iv lm, rv b4, rv b50, iv got, iv (sa + (2 : Int32)), iv sp, iv cl, iv gg, iv sp] [] _
        refine XS.iload X65.here hx rfl (hb hby at_215) rfl ?_
        show SS p e below m T65 217 #[iv p1, iv p2, iv p3, iv sa, iv lm, rv b4, rv b50, iv got, iv (sa + (2 : Int32)), iv sp, iv cl, iv gg, iv sp] [(.int got)] _
        refine XS.iload X65.here hx rfl (hb hby at_217) rfl ?_
        show SS p e below m T65 219 #[iv p1, iv p2, iv p3, iv sa, iv lm, rv b4, rv b50, iv got, iv (sa + (2 : Int32)), iv sp, iv cl, iv gg, iv sp] [(.int sp), (.int got)] _
        exact kk)
      have hq77 : got = sp := by
        rw [g_got]
        refine (own_de vs (sa + (2 : Int32)) lm sp cl gg sa hfrom.1 hlm.2 (by omega) rfl hsp hcl hgg).trans ?_
        rw [if_pos hc68, if_neg hc70]
      have pre78 : ∀ t, SS p e below m T65 224 #[iv p1, iv p2, iv p3, iv sa, iv lm, rv b4, rv b50, iv got, iv (sa + (2 : Int32)), iv sp, iv cl, iv gg, iv sp] [(.ref b50)] t → B t := fun t kk => pre76 t (by
        refine XS.icmpNo X65.here hx rfl (hb hby at_219) rfl (teq hq77).2 ?_
        show SS p e below m T65 222 #[iv p1, iv p2, iv p3, iv sa, iv lm, rv b4, rv b50, iv got, iv (sa + (2 : Int32)), iv sp, iv cl, iv gg, iv sp] [] _
        refine XS.aload X65.here hx rfl (hb hby at_222) rfl rfl ?_
        show SS p e below m T65 224 #[iv p1, iv p2, iv p3, iv sa, iv lm, rv b4, rv b50, iv got, iv (sa + (2 : Int32)), iv sp, iv cl, iv gg, iv sp] [(.ref b50)] _
        exact kk)
      obtain ⟨T79, X79, e79, st79⟩ := getF X65 hx hZ hown (host := "") (Or.inl (hw _ (List.mem_of_getElem? (i := 44) rfl))) Via.refl e65 Fp54 (g := (mkF m 224 #[iv p1, iv p2, iv p3, iv sa, iv lm, rv b4, rv b50, iv got, iv (sa + (2 : Int32)), iv sp, iv cl, iv gg, iv sp] [(.ref b50)])) rfl rfl (hb hby at_224)
      have pre80 : ∀ t, SS p e below m T79 236 #[iv p1, iv p2, iv p3, iv sa, iv lm, rv b4, rv b50, iv got, iv (sa + (2 : Int32)), iv sp, iv cl, iv gg, iv sp] [(.int (1 : Int32))] t → B t := fun t kk => pre78 t (by
        refine st79 _ ?_
        show SS p e below m T79 227 #[iv p1, iv p2, iv p3, iv sa, iv lm, rv b4, rv b50, iv got, iv (sa + (2 : Int32)), iv sp, iv cl, iv gg, iv sp] [(.int sa)] _
        refine XS.iloadN X79.here hx rfl (hb hby at_227) rfl ?_
        show SS p e below m T79 228 #[iv p1, iv p2, iv p3, iv sa, iv lm, rv b4, rv b50, iv got, iv (sa + (2 : Int32)), iv sp, iv cl, iv gg, iv sp] [(.int sa), (.int sa)] _
        refine XS.icmpNo X79.here hx rfl (hb hby at_228) rfl (teq (rfl : sa = sa)).2 ?_
        show SS p e below m T79 231 #[iv p1, iv p2, iv p3, iv sa, iv lm, rv b4, rv b50, iv got, iv (sa + (2 : Int32)), iv sp, iv cl, iv gg, iv sp] [] _
        refine XS.iconst X79.here hx rfl (hb hby at_231) ?_
        show SS p e below m T79 232 #[iv p1, iv p2, iv p3, iv sa, iv lm, rv b4, rv b50, iv got, iv (sa + (2 : Int32)), iv sp, iv cl, iv gg, iv sp] [(.int (1 : Int32))] _
        refine XS.goto X79.here hx rfl (pc0 := 232) (pc' := 236) rfl (hb hby at_232) (by decide) (by decide) ?_
        show SS p e below m T79 236 #[iv p1, iv p2, iv p3, iv sa, iv lm, rv b4, rv b50, iv got, iv (sa + (2 : Int32)), iv sp, iv cl, iv gg, iv sp] [(.int (1 : Int32))] _
        exact kk)
      obtain ⟨fs, hr, hrun, hended, hW, hsame⟩ := X79.leave (v := some (.int (1 : Int32))) (fun h => by rw [Bd.returns] at h; cases h)
      refine ⟨_, _, hB _ (pre80 _ ?_), hrun, hended, _, _, rfl, ?_, ⟨_, rfl⟩, hW, hsame.mono (by decide) (by decide)⟩
      · exact retN X79 hx (t := .boolean) Bd.returns (by simp) (hb hby at_236) hr
      · exact ⟨rfl, N65⟩
  · have pre81 : ∀ t, SS p e below m T65 219 #[iv p1, iv p2, iv p3, iv sa, iv lm, rv b4, rv b50, iv got, iv (sa + (2 : Int32)), iv sp, iv cl, iv gg, iv (cl + (1 : Int32))] [(.int (cl + (1 : Int32))), (.int got)] t → B t := fun t kk => pre67 t (by
      refine XS.ifNo X65.here hx rfl (hb hby at_183) rfl ((if0 _ _).trans (flt hc68).1) ?_
      show SS p e below m T65 186 #[iv p1, iv p2, iv p3, iv sa, iv lm, rv b4, rv b50, iv got, iv (sa + (2 : Int32)), iv sp, iv cl, iv gg, .unset] [] _
      refine XS.iload X65.here hx rfl (hb hby at_186) rfl ?_
      show SS p e below m T65 188 #[iv p1, iv p2, iv p3, iv sa, iv lm, rv b4, rv b50, iv got, iv (sa + (2 : Int32)), iv sp, iv cl, iv gg, .unset] [(.int cl)] _
      refine XS.iconst X65.here hx rfl (hb hby at_188) ?_
      show SS p e below m T65 189 #[iv p1, iv p2, iv p3, iv sa, iv lm, rv b4, rv b50, iv got, iv (sa + (2 : Int32)), iv sp, iv cl, iv gg, .unset] [(.int (1 : Int32)), (.int cl)] _
      refine XS.iadd X65.here hx rfl (hb hby at_189) rfl ?_
      show SS p e below m T65 190 #[iv p1, iv p2, iv p3, iv sa, iv lm, rv b4, rv b50, iv got, iv (sa + (2 : Int32)), iv sp, iv cl, iv gg, .unset] [(.int (cl + (1 : Int32)))] _
      refine XS.istore X65.here hx rfl (hb hby at_190) rfl (l' := #[iv p1, iv p2, iv p3, iv sa, iv lm, rv b4, rv b50, iv got, iv (sa + (2 : Int32)), iv sp, iv cl, iv gg, iv (cl + (1 : Int32))]) rfl ?_
      show SS p e below m T65 192 #[iv p1, iv p2, iv p3, iv sa, iv lm, rv b4, rv b50, iv got, iv (sa + (2 : Int32)), iv sp, iv cl, iv gg, iv (cl + (1 : Int32))] [] _
      refine XS.goto X65.here hx rfl (pc0 := 192) (pc' := 215) rfl (hb hby at_192) (by decide) (by decide) ?_
      show SS p e below m T65 215 #[iv p1, iv p2, iv p3, iv sa, iv lm, rv b4, rv b50, iv got, iv (sa + (2 : Int32)), iv sp, iv cl, iv gg, iv (cl + (1 : Int32))] [] _
      refine XS.iload X65.here hx rfl (hb hby at_215) rfl ?_
      show SS p e below m T65 217 #[iv p1, iv p2, iv p3, iv sa, iv lm, rv b4, rv b50, iv got, iv (sa + (2 : Int32)), iv sp, iv cl, iv gg, iv (cl + (1 : Int32))] [(.int got)] _
      refine XS.iload X65.here hx rfl (hb hby at_217) rfl ?_
      show SS p e below m T65 219 #[iv p1, iv p2, iv p3, iv sa, iv lm, rv b4, rv b50, iv got, iv (sa + (2 : Int32)), iv sp, iv cl, iv gg, iv (cl + (1 : Int32))] [(.int (cl + (1 : Int32))), (.int got)] _
      exact kk)
    have hq82 : got = (cl + (1 : Int32)) := by
      rw [g_got]
      refine (own_de vs (sa + (2 : Int32)) lm sp cl gg sa hfrom.1 hlm.2 (by omega) rfl hsp hcl hgg).trans ?_
      rw [if_neg hc68]
    have pre83 : ∀ t, SS p e below m T65 224 #[iv p1, iv p2, iv p3, iv sa, iv lm, rv b4, rv b50, iv got, iv (sa + (2 : Int32)), iv sp, iv cl, iv gg, iv (cl + (1 : Int32))] [(.ref b50)] t → B t := fun t kk => pre81 t (by
      refine XS.icmpNo X65.here hx rfl (hb hby at_219) rfl (teq hq82).2 ?_
      show SS p e below m T65 222 #[iv p1, iv p2, iv p3, iv sa, iv lm, rv b4, rv b50, iv got, iv (sa + (2 : Int32)), iv sp, iv cl, iv gg, iv (cl + (1 : Int32))] [] _
      refine XS.aload X65.here hx rfl (hb hby at_222) rfl rfl ?_
      show SS p e below m T65 224 #[iv p1, iv p2, iv p3, iv sa, iv lm, rv b4, rv b50, iv got, iv (sa + (2 : Int32)), iv sp, iv cl, iv gg, iv (cl + (1 : Int32))] [(.ref b50)] _
      exact kk)
    obtain ⟨T84, X84, e84, st84⟩ := getF X65 hx hZ hown (host := "") (Or.inl (hw _ (List.mem_of_getElem? (i := 44) rfl))) Via.refl e65 Fp54 (g := (mkF m 224 #[iv p1, iv p2, iv p3, iv sa, iv lm, rv b4, rv b50, iv got, iv (sa + (2 : Int32)), iv sp, iv cl, iv gg, iv (cl + (1 : Int32))] [(.ref b50)])) rfl rfl (hb hby at_224)
    have pre85 : ∀ t, SS p e below m T84 236 #[iv p1, iv p2, iv p3, iv sa, iv lm, rv b4, rv b50, iv got, iv (sa + (2 : Int32)), iv sp, iv cl, iv gg, iv (cl + (1 : Int32))] [(.int (1 : Int32))] t → B t := fun t kk => pre83 t (by
      refine st84 _ ?_
      show SS p e below m T84 227 #[iv p1, iv p2, iv p3, iv sa, iv lm, rv b4, rv b50, iv got, iv (sa + (2 : Int32)), iv sp, iv cl, iv gg, iv (cl + (1 : Int32))] [(.int sa)] _
      refine XS.iloadN X84.here hx rfl (hb hby at_227) rfl ?_
      show SS p e below m T84 228 #[iv p1, iv p2, iv p3, iv sa, iv lm, rv b4, rv b50, iv got, iv (sa + (2 : Int32)), iv sp, iv cl, iv gg, iv (cl + (1 : Int32))] [(.int sa), (.int sa)] _
      refine XS.icmpNo X84.here hx rfl (hb hby at_228) rfl (teq (rfl : sa = sa)).2 ?_
      show SS p e below m T84 231 #[iv p1, iv p2, iv p3, iv sa, iv lm, rv b4, rv b50, iv got, iv (sa + (2 : Int32)), iv sp, iv cl, iv gg, iv (cl + (1 : Int32))] [] _
      refine XS.iconst X84.here hx rfl (hb hby at_231) ?_
      show SS p e below m T84 232 #[iv p1, iv p2, iv p3, iv sa, iv lm, rv b4, rv b50, iv got, iv (sa + (2 : Int32)), iv sp, iv cl, iv gg, iv (cl + (1 : Int32))] [(.int (1 : Int32))] _
      refine XS.goto X84.here hx rfl (pc0 := 232) (pc' := 236) rfl (hb hby at_232) (by decide) (by decide) ?_
      show SS p e below m T84 236 #[iv p1, iv p2, iv p3, iv sa, iv lm, rv b4, rv b50, iv got, iv (sa + (2 : Int32)), iv sp, iv cl, iv gg, iv (cl + (1 : Int32))] [(.int (1 : Int32))] _
      exact kk)
    obtain ⟨fs, hr, hrun, hended, hW, hsame⟩ := X84.leave (v := some (.int (1 : Int32))) (fun h => by rw [Bd.returns] at h; cases h)
    refine ⟨_, _, hB _ (pre85 _ ?_), hrun, hended, _, _, rfl, ?_, ⟨_, rfl⟩, hW, hsame.mono (by decide) (by decide)⟩
    · exact retN X84 hx (t := .boolean) Bd.returns (by simp) (hb hby at_236) hr
    · exact ⟨rfl, N65⟩
set_option maxRecDepth 65536 in
set_option maxHeartbeats 40000000 in
theorem comes_1 {Post : Tables → Env → Array Value → State → Outcome → State → Prop} (hpost : ∀ tb e args s v u, (limb_1_1.after args s (.returned v) u = true ∧ limb_1_2.after args s (.returned v) u = true ∧ True) → FrameEnd s (.returned v) u (Jvm.fieldLocs frame_1_writes args s ++ Jvm.arrayLocs frame_1_arrays args s ++ Jvm.staticLocs frame_1_statics s) 16 128 → Post tb e args s (.returned v) u) :
    ArmFor flags0 classFile x code maxLocals ret World_1 tables_1 room_1 Calls_1 rest_1 Pre_1 Post := by
  intro l hfl _ _ p e ha hc hk s m args below hf hA hF happ hP
  obtain ⟨hcalls, hrest, hpre⟩ := hP
  obtain ⟨-, -, -, hnamed, -, -, -, hat⟩ := (Spec.applies_iff hf).mp happ
  obtain ⟨hg, hn⟩ := and_e (Cond.before_iff.mp (show (Jvm.Cond.and given_1 narrow_1).before args s = true from hpre))
  obtain ⟨gg1, gg2⟩ := and_e hg
  obtain ⟨gg3, gg4⟩ := and_e gg2
  obtain ⟨gg5, gg6⟩ := and_e gg4
  obtain ⟨w0, w1, w2, rfl⟩ : ∃ w0 w1 w2 : Value, args = #[w0, w1, w2] := by
    have hs : args.size = 3 := by simpa [Cond.value, given_1] using gg1
    obtain ⟨L⟩ := args
    match L, hs with
    | [w0, w1, w2], _ => exact ⟨w0, w1, w2, rfl⟩
  have hw := fun d (hd : d ∈ tables_1) => atoms_spec (ws := Jvm.Cond.code x code maxLocals ret :: tables_1) hat d (List.mem_cons_of_mem _ hd)
  obtain ⟨i0, ei0⟩ := is_v gg3
  obtain rfl : w0 = (.int i0) := Option.some.inj ei0
  obtain ⟨i1, ei1⟩ := is_v gg5
  obtain rfl : w1 = (.int i1) := Option.some.inj ei1
  obtain ⟨i2, ei2⟩ := is_v gg6
  obtain rfl : w2 = (.int i2) := Option.some.inj ei2
  obtain ⟨n, o, h1, h2, h3, _, L, rfl, ⟨rfl, N⟩, hq⟩ := rm0 l s _ hw tables_1 i0 i1 i2 s.heap s.heap.size (Nat.le_refl _)  p e ha hc hk s m _ below hf ((Spec.applies_iff_loose hf).mp happ).1 ⟨rfl, State.Warmed39.refl s, rfl⟩ trivial
  refine ⟨n, _, h1, h2, h3, hpost _ _ _ _ _ _ ⟨Cond.after_iff.mpr rfl, Cond.after_iff.mpr (eq_i res_at (Term.int_eval (1)) rfl), trivial⟩ ⟨hq.1, hq.2.1, (hq.2.2.sift fun y hy => Or.inr (N y hy)).mono (by decide) (by decide)⟩⟩
theorem main_1_1 : Claimed_1_1 := comes_1 fun _ _ _ _ _ _ h hF => ⟨h.1, hF⟩
theorem main_1_2 : Claimed_1_2 := comes_1 fun _ _ _ _ _ _ h hF => ⟨h.2.1, hF⟩
end Jvm.Pilot.@@N@@
namespace Jvm.Pilot.@@N@@
open Jvm Jvm.ClassFile Sem Op Lib Jvm.Free Jvm.Stand Jvm.Pilot.@@N@@.Jvm.D
/-! MADE BY PROGRAM (witnessworld.py) out of the Statement's table words and the real class files: 11 classes; the members and pool entries that the words name. The judged class is class 1, her method 1. -/
namespace start1
open Jvm.ClassFile
def u (s : String) : CpInfo := .utf8 (stringToUtf16 s)
/-- a pool by its gaps: so many unusable entries, then the entry; so many at the end -/
def gap : Nat → List CpInfo → List CpInfo
  | 0, r => r
  | n + 1, r => .unusable :: gap n r
def poolList (es : List (Nat × CpInfo)) (last : Nat) : List CpInfo := es.foldr (fun e r => gap e.1 (e.2 :: r)) (gap last [])
def pool (es : List (Nat × CpInfo)) (last : Nat) : Array CpInfo := ⟨poolList es last⟩
def fileOf (pool : Array CpInfo) (this : Nat) (attrs : Array Attribute := #[]) (ms : Array MethodInfo := #[]) (fl : Nat := 33) (sup : Nat := 0) (ifs : Array Nat := #[]) (fds : Array FieldInfo := #[]) : ClassFile where
  minorVersion := 0
  majorVersion := 65
  constantPool := pool
  accessFlags := fl
  thisClass := this
  superClass := sup
  interfaces := ifs
  fields := fds
  methods := ms
  attributes := attrs
def plain (name : String) (sup : Option ClassId) : Class where
  name := name
  kind := .ordinary
  loader := none
  accessFlags := 33
  super := sup
  interfaces := #[]
  cf := none
  fields := #[]
  methods := #[]
  instanceTypes := #[]
  staticTypes := #[]
  resolved := #[]
  callSites := []
  init := .initialized
  statics := none
  mirror := none

def pool0 : Array CpInfo := pool [(5, u "<init>"), (0, u "()V"), (1, .class_ 10), (1, u "java/lang/Object")] 113

def k0c0 : Code := { maxStack := 0, maxLocals := 1, code := object_method_1_code, exceptionTable := #[], attributes := #[] }
def k0m0 : Method := { name := "<init>", desc := "()V", sig := { parameters := [], returnType := none }, accessFlags := 1, code := some k0c0 }
/-- java/lang/Object -/
def k0 : Class := { plain "java/lang/Object" none with
  accessFlags := 33
  interfaces := #[]
  cf := some (fileOf pool0 8 #[] #[{ accessFlags := 1, nameIndex := 5, descriptorIndex := 6, attributes := #[] }] 33 0 #[] #[])
  fields := #[]
  methods := #[k0m0]
  instanceTypes := #[]
  staticTypes := #[]
  resolved := Array.replicate 124 none
  statics := none }

def pool1 : Array CpInfo := pool [(2, .class_ 4), (1, u "java/lang/Object"), (0, u "<init>"), (0, u "()V"), (0, .integer 2147483647), (0, .methodref 9 10), (0, .class_ 11), (0, .nameAndType 12 13), (0, u "com/example/mendmark/mendmark/core/ScannerDeclarationEndPinLaw"), (0, u "pick"), (0, u "(II)C"), (0, .class_ 15), (0, u "com/example/mendmark/mendmark/core/Scanner"), (0, .methodref 14 17), (0, .nameAndType 5 18), (0, u "([CIILcom/example/mendmark/mendmark/core/Dtd;Lcom/example/mendmark/mendmark/core/RepairLog;)V"), (0, .methodref 14 20), (0, .nameAndType 21 22), (0, u "declarationEnd"), (0, u "(I)I"), (0, .methodref 9 24), (0, .nameAndType 25 26), (0, u "firstIndex"), (0, u "([CIIC)I"), (0, .methodref 9 28), (0, .nameAndType 29 30), (0, u "firstClose"), (0, u "([CII)I"), (0, .fieldref 14 32), (0, .nameAndType 33 34), (0, u "pos"), (0, u "I"), (0, .methodref 9 36), (0, .nameAndType 37 38), (0, u "hit"), (0, u "([CIIIC)Z"), (0, .methodref 9 40), (0, .nameAndType 41 42), (0, u "closeAt"), (0, u "([CIII)Z"), (2, u "law"), (0, u "(III)Z")] 5

def k1m0 : Method := { name := "<init>", desc := "()V", sig := { parameters := [], returnType := none }, accessFlags := 1, code := none }
def k1c1 : Code := { maxStack := 7, maxLocals := 13, code := code, exceptionTable := #[], attributes := #[] }
def k1m1 : Method := { name := "law", desc := "(III)Z", sig := { parameters := [.int, .int, .int], returnType := some .boolean }, accessFlags := 9, code := some k1c1 }
def k1c2 : Code := { maxStack := 3, maxLocals := 3, code := method_3_code, exceptionTable := #[], attributes := #[] }
def k1m2 : Method := { name := "pick", desc := "(II)C", sig := { parameters := [.int, .int], returnType := some .char }, accessFlags := 10, code := some k1c2 }
def k1c3 : Code := { maxStack := 2, maxLocals := 5, code := method_4_code, exceptionTable := #[], attributes := #[] }
def k1m3 : Method := { name := "hit", desc := "([CIIIC)Z", sig := { parameters := [(.array .char), .int, .int, .int, .char], returnType := some .boolean }, accessFlags := 10, code := some k1c3 }
def k1c4 : Code := { maxStack := 5, maxLocals := 5, code := method_5_code, exceptionTable := #[], attributes := #[] }
def k1m4 : Method := { name := "firstIndex", desc := "([CIIC)I", sig := { parameters := [(.array .char), .int, .int, .char], returnType := some .int }, accessFlags := 10, code := some k1c4 }
def k1c5 : Code := { maxStack := 3, maxLocals := 4, code := method_6_code, exceptionTable := #[], attributes := #[] }
def k1m5 : Method := { name := "closeAt", desc := "([CIII)Z", sig := { parameters := [(.array .char), .int, .int, .int], returnType := some .boolean }, accessFlags := 10, code := some k1c5 }
def k1c6 : Code := { maxStack := 4, maxLocals := 4, code := method_7_code, exceptionTable := #[], attributes := #[] }
def k1m6 : Method := { name := "firstClose", desc := "([CII)I", sig := { parameters := [(.array .char), .int, .int], returnType := some .int }, accessFlags := 10, code := some k1c6 }
/-- com/example/mendmark/mendmark/core/ScannerDeclarationEndPinLaw -/
def k1 : Class := { plain "com/example/mendmark/mendmark/core/ScannerDeclarationEndPinLaw" (some 0) with
  accessFlags := 49
  interfaces := #[]
  cf := some (fileOf pool1 9 #[] #[{ accessFlags := 1, nameIndex := 5, descriptorIndex := 6, attributes := #[] }, { accessFlags := 9, nameIndex := 45, descriptorIndex := 46, attributes := #[] }, { accessFlags := 10, nameIndex := 12, descriptorIndex := 13, attributes := #[] }, { accessFlags := 10, nameIndex := 37, descriptorIndex := 38, attributes := #[] }, { accessFlags := 10, nameIndex := 25, descriptorIndex := 26, attributes := #[] }, { accessFlags := 10, nameIndex := 41, descriptorIndex := 42, attributes := #[] }, { accessFlags := 10, nameIndex := 29, descriptorIndex := 30, attributes := #[] }] 49 2 #[] #[])
  fields := #[]
  methods := #[k1m0, k1m1, k1m2, k1m3, k1m4, k1m5, k1m6]
  instanceTypes := #[]
  staticTypes := #[]
  resolved := Array.replicate 52 none
  statics := none }

def pool2 : Array CpInfo := pool [(1, .methodref 2 3), (0, .class_ 4), (0, .nameAndType 5 6), (0, u "java/lang/Object"), (0, u "<init>"), (0, u "()V"), (0, .fieldref 8 9), (0, .class_ 10), (0, .nameAndType 11 12), (0, u "com/example/mendmark/mendmark/core/Scanner"), (0, u "keptColon"), (0, u "I"), (0, .fieldref 8 14), (0, .nameAndType 15 16), (0, u "text"), (0, u "[C"), (0, .fieldref 8 18), (0, .nameAndType 19 12), (0, u "pos"), (0, .fieldref 8 21), (0, .nameAndType 22 12), (0, u "limit"), (0, .fieldref 8 24), (0, .nameAndType 25 26), (0, u "dtd"), (0, u "Lcom/example/mendmark/mendmark/core/Dtd;"), (0, .fieldref 8 28), (0, .nameAndType 29 30), (0, u "log"), (0, u "Lcom/example/mendmark/mendmark/core/RepairLog;"), (60, u "(I)I"), (1, .class_ 95), (1, u "com/example/mendmark/mendmark/core/Scanner$Colons"), (296, u "declarationEnd"), (13, u "NOT_A_REFERENCE"), (0, u "Ljava/lang/String;"), (1, u "STRICT_PARSERS"), (0, u "([CIILcom/example/mendmark/mendmark/core/Dtd;Lcom/example/mendmark/mendmark/core/RepairLog;)V")] 50

def k2c0 : Code := { maxStack := 2, maxLocals := 6, code := prog_53_method_1_code, exceptionTable := #[], attributes := #[] }
def k2m0 : Method := { name := "<init>", desc := "([CIILcom/example/mendmark/mendmark/core/Dtd;Lcom/example/mendmark/mendmark/core/RepairLog;)V", sig := { parameters := [(.array .char), .int, .int, (.object "com/example/mendmark/mendmark/core/Dtd"), (.object "com/example/mendmark/mendmark/core/RepairLog")], returnType := none }, accessFlags := 0, code := some k2c0 }
def k2c1 : Code := { maxStack := 3, maxLocals := 6, code := prog_53_method_32_code, exceptionTable := #[], attributes := #[] }
def k2m1 : Method := { name := "declarationEnd", desc := "(I)I", sig := { parameters := [.int], returnType := some .int }, accessFlags := 16, code := some k2c1 }
/-- com/example/mendmark/mendmark/core/Scanner -/
def k2 : Class := { plain "com/example/mendmark/mendmark/core/Scanner" (some 0) with
  accessFlags := 32
  interfaces := #[]
  cf := some (fileOf pool2 8 #[.nestMembers #[93]] #[{ accessFlags := 0, nameIndex := 5, descriptorIndex := 410, attributes := #[] }, { accessFlags := 16, nameIndex := 392, descriptorIndex := 91, attributes := #[] }] 32 2 #[] #[{ accessFlags := 26, nameIndex := 406, descriptorIndex := 407, attributes := #[] }, { accessFlags := 26, nameIndex := 409, descriptorIndex := 407, attributes := #[] }, { accessFlags := 16, nameIndex := 15, descriptorIndex := 16, attributes := #[] }, { accessFlags := 16, nameIndex := 22, descriptorIndex := 12, attributes := #[] }, { accessFlags := 16, nameIndex := 25, descriptorIndex := 26, attributes := #[] }, { accessFlags := 16, nameIndex := 29, descriptorIndex := 30, attributes := #[] }, { accessFlags := 0, nameIndex := 19, descriptorIndex := 12, attributes := #[] }, { accessFlags := 0, nameIndex := 11, descriptorIndex := 12, attributes := #[] }])
  fields := #[{ name := "NOT_A_REFERENCE", type := (.object "java/lang/String"), accessFlags := 26, slot := 0, constantValue := 0 }, { name := "STRICT_PARSERS", type := (.object "java/lang/String"), accessFlags := 26, slot := 1, constantValue := 0 }, { name := "text", type := (.array .char), accessFlags := 16, slot := 0, constantValue := 0 }, { name := "limit", type := .int, accessFlags := 16, slot := 1, constantValue := 0 }, { name := "dtd", type := (.object "com/example/mendmark/mendmark/core/Dtd"), accessFlags := 16, slot := 2, constantValue := 0 }, { name := "log", type := (.object "com/example/mendmark/mendmark/core/RepairLog"), accessFlags := 16, slot := 3, constantValue := 0 }, { name := "pos", type := .int, accessFlags := 0, slot := 4, constantValue := 0 }, { name := "keptColon", type := .int, accessFlags := 0, slot := 5, constantValue := 0 }]
  methods := #[k2m0, k2m1]
  instanceTypes := #[(.array .char), .int, (.object "com/example/mendmark/mendmark/core/Dtd"), (.object "com/example/mendmark/mendmark/core/RepairLog"), .int, .int]
  staticTypes := #[(.object "java/lang/String"), (.object "java/lang/String")]
  resolved := Array.replicate 461 none
  statics := none }

def pool3 : Array CpInfo := pool [(1, u "java/lang/Cloneable"), (0, .class_ 1), (0, u "java/lang/Object"), (0, .class_ 3)] 3

/-- java/lang/Cloneable -/
def k3 : Class := { plain "java/lang/Cloneable" (some 0) with
  accessFlags := 1537
  interfaces := #[]
  cf := some (fileOf pool3 2 #[] #[] 1537 4 #[] #[])
  fields := #[]
  methods := #[]
  instanceTypes := #[]
  staticTypes := #[]
  resolved := Array.replicate 8 none
  statics := none }

def pool4 : Array CpInfo := pool [(1, u "java/io/Serializable"), (0, .class_ 1), (0, u "java/lang/Object"), (0, .class_ 3)] 3

/-- java/io/Serializable -/
def k4 : Class := { plain "java/io/Serializable" (some 0) with
  accessFlags := 1537
  interfaces := #[]
  cf := some (fileOf pool4 2 #[] #[] 1537 4 #[] #[])
  fields := #[]
  methods := #[]
  instanceTypes := #[]
  staticTypes := #[]
  resolved := Array.replicate 8 none
  statics := none }

/-- the primitive byte -/
def k5 : Class := { plain "byte" none with kind := .primitive 'B', accessFlags := 0x411 }
/-- [B -/
def k6 : Class := { plain "[B" (some 0) with kind := .array 5 .byte, interfaces := #[3, 4], accessFlags := 1041 }

/-- the primitive char -/
def k7 : Class := { plain "char" none with kind := .primitive 'C', accessFlags := 0x411 }
/-- [C -/
def k8 : Class := { plain "[C" (some 0) with kind := .array 7 .char, interfaces := #[3, 4], accessFlags := 1041 }

/-- the primitive int -/
def k9 : Class := { plain "int" none with kind := .primitive 'I', accessFlags := 0x411 }
/-- [I -/
def k10 : Class := { plain "[I" (some 0) with kind := .array 9 .int, interfaces := #[3, 4], accessFlags := 1041 }

def heap : Heap := #[]
def classes : Array Class := #[k0, k1, k2, k3, k4, k5, k6, k7, k8, k9, k10]
def interned : List (Array UInt16 × Addr) := []
def slotsUsed : Nat := 0
def theMethod : MethodId := ⟨1, 1⟩
def args0 : Array Value := #[.int 5, .int 5, .int 5]
def aboutOver (below : List Frame) : State where
  vm := { classes := classes, interned := interned.toArray }
  heap := heap
  slotsUsed := slotsUsed
  threads := #[{ frames := .invoking theMethod args0 :: below }]
def below0 : List Frame := [.native { method := ⟨0, 0⟩, args := #[] }]
def about1 : State := aboutOver below0
def p0 : Program := .bare "" "" ""
def e0 : Env := launch0.env 0 0 0
theorem w_frames : about1.frames = Frame.invoking theMethod args0 :: below0 := rfl
set_option maxRecDepth 65536 in
theorem w_args : argsFit about1.vm theMethod args0 = true := by decide +kernel
set_option maxRecDepth 65536 in
theorem w_heap : heapFits about1 = true := by decide +kernel
set_option maxRecDepth 65536 in
theorem w_runnable : about1.curStatus? = some .runnable := by decide +kernel
set_option maxRecDepth 65536 in
theorem w_alone : about1.alone = true := by decide +kernel
set_option maxRecDepth 65536 in
theorem w_named : about1.methodNamed? x = some theMethod := by decide +kernel
set_option maxRecDepth 65536 in
theorem w_hears : about1.hears theMethod below0 = true := by decide +kernel
set_option maxRecDepth 65536 in
theorem w_ripe : about1.ripe theMethod args0 below0 = true := by decide +kernel
theorem w_running : about1.status = .running := rfl
set_option maxRecDepth 65536 in
theorem w_room : about1.hasRoom e0.platform room_1 = true :=
  launch0.hasRoom_least _ room_1 (by decide +kernel) (by decide +kernel) (by decide +kernel) (by decide +kernel) (by decide +kernel) (by decide +kernel)
theorem allAtoms_all (ts : List Jvm.Cond) (a : Array Jvm.Value) (st : Jvm.State) : (allAtoms ts).before a st = ts.all (fun c => c.before a st) := by
  induction ts with
  | nil => rfl
  | cons c t ih =>
    show (Jvm.Cond.and c (allAtoms t)).before a st = _
    rw [Jvm.Cond.before_and, ih, List.all_cons]
def words1 : List Jvm.Cond := Jvm.Cond.code x code maxLocals ret :: tables_1
/-- a 'code' word, met by the world's own term for the bytes: nothing is compared byte by byte -/
theorem code_word {y : MethodName} {bytes : ByteArray} {mx : Nat} {rt : Option FieldType} {a : Array Value} {s : State} {m : MethodId} {meth : Method} {c : Code} (h1 : s.methodNamed? y = some m) (h2 : s.vm.method? m = some meth) (h3 : meth.code = some c) (h4 : c.code = bytes)
    (h5 : (c.maxLocals == mx && c.exceptionTable.isEmpty && decide (c.maxStack ≤ mostOperands) && decide (meth.sig.returnType = rt) && !meth.locks && decide (parseMethodDescriptor y.desc = some meth.sig)) = true) : (Jvm.Cond.code y bytes mx rt).before a s = true := by
  simp only [Bool.and_eq_true, beq_iff_eq, Bool.not_eq_true', decide_eq_true_eq] at h5
  obtain ⟨⟨⟨⟨⟨g1, g2⟩, g3⟩, g4⟩, g5⟩, g6⟩ := h5
  simp [Cond.before, Cond.holds, Cond.value, h1, h2, h3, h4, g1, g2, g3, g4, g5, g6]
def isCode : Jvm.Cond → Bool
  | .code _ _ _ _ => true
  | _ => false
theorem all_split {L : List Jvm.Cond} {P : Jvm.Cond → Bool} (h1 : L.all (fun c => isCode c || P c) = true) (h2 : ∀ c ∈ L.filter isCode, P c = true) : L.all P = true := by
  refine List.all_eq_true.mpr fun c hc => ?_
  have h := List.all_eq_true.mp h1 c hc
  rcases Bool.eq_false_or_eq_true (isCode c) with hi | hi
  · exact h2 c (List.mem_filter.mpr ⟨hc, hi⟩)
  · simpa [hi] using h
set_option maxRecDepth 65536 in
theorem w_c0 : (Jvm.Cond.code x code maxLocals ret).before args0 about1 = true := code_word (m := ⟨1, 1⟩) (meth := k1m1) (c := k1c1) (by decide +kernel) rfl rfl rfl (by decide +kernel)
set_option maxRecDepth 65536 in
theorem w_c1 : (Jvm.Cond.code ({ cls := "com/example/mendmark/mendmark/core/ScannerDeclarationEndPinLaw", name := "pick", desc := "(II)C" } : Jvm.MethodName) method_3_code (3 : Nat) (Option.some Jvm.ClassFile.FieldType.char)).before args0 about1 = true := code_word (m := ⟨1, 2⟩) (meth := k1m2) (c := k1c2) (by decide +kernel) rfl rfl rfl (by decide +kernel)
set_option maxRecDepth 65536 in
theorem w_c2 : (Jvm.Cond.code ({ cls := "com/example/mendmark/mendmark/core/Scanner", name := "<init>", desc := "([CIILcom/example/mendmark/mendmark/core/Dtd;Lcom/example/mendmark/mendmark/core/RepairLog;)V" } : Jvm.MethodName) prog_53_method_1_code (6 : Nat) (Option.none : Option Jvm.ClassFile.FieldType)).before args0 about1 = true := code_word (m := ⟨2, 0⟩) (meth := k2m0) (c := k2c0) (by decide +kernel) rfl rfl rfl (by decide +kernel)
set_option maxRecDepth 65536 in
theorem w_c3 : (Jvm.Cond.code ({ cls := "java/lang/Object", name := "<init>", desc := "()V" } : Jvm.MethodName) object_method_1_code (1 : Nat) (Option.none : Option Jvm.ClassFile.FieldType)).before args0 about1 = true := code_word (m := ⟨0, 0⟩) (meth := k0m0) (c := k0c0) (by decide +kernel) rfl rfl rfl (by decide +kernel)
set_option maxRecDepth 65536 in
theorem w_c4 : (Jvm.Cond.code ({ cls := "com/example/mendmark/mendmark/core/Scanner", name := "declarationEnd", desc := "(I)I" } : Jvm.MethodName) prog_53_method_32_code (6 : Nat) (Option.some Jvm.ClassFile.FieldType.int)).before args0 about1 = true := code_word (m := ⟨2, 1⟩) (meth := k2m1) (c := k2c1) (by decide +kernel) rfl rfl rfl (by decide +kernel)
set_option maxRecDepth 65536 in
theorem w_c5 : (Jvm.Cond.code ({ cls := "com/example/mendmark/mendmark/core/ScannerDeclarationEndPinLaw", name := "firstIndex", desc := "([CIIC)I" } : Jvm.MethodName) method_5_code (5 : Nat) (Option.some Jvm.ClassFile.FieldType.int)).before args0 about1 = true := code_word (m := ⟨1, 4⟩) (meth := k1m4) (c := k1c4) (by decide +kernel) rfl rfl rfl (by decide +kernel)
set_option maxRecDepth 65536 in
theorem w_c6 : (Jvm.Cond.code ({ cls := "com/example/mendmark/mendmark/core/ScannerDeclarationEndPinLaw", name := "hit", desc := "([CIIIC)Z" } : Jvm.MethodName) method_4_code (5 : Nat) (Option.some Jvm.ClassFile.FieldType.boolean)).before args0 about1 = true := code_word (m := ⟨1, 3⟩) (meth := k1m3) (c := k1c3) (by decide +kernel) rfl rfl rfl (by decide +kernel)
set_option maxRecDepth 65536 in
theorem w_c7 : (Jvm.Cond.code ({ cls := "com/example/mendmark/mendmark/core/ScannerDeclarationEndPinLaw", name := "firstClose", desc := "([CII)I" } : Jvm.MethodName) method_7_code (4 : Nat) (Option.some Jvm.ClassFile.FieldType.int)).before args0 about1 = true := code_word (m := ⟨1, 6⟩) (meth := k1m6) (c := k1c6) (by decide +kernel) rfl rfl rfl (by decide +kernel)
set_option maxRecDepth 65536 in
theorem w_c8 : (Jvm.Cond.code ({ cls := "com/example/mendmark/mendmark/core/ScannerDeclarationEndPinLaw", name := "closeAt", desc := "([CIII)Z" } : Jvm.MethodName) method_6_code (4 : Nat) (Option.some Jvm.ClassFile.FieldType.boolean)).before args0 about1 = true := code_word (m := ⟨1, 5⟩) (meth := k1m5) (c := k1c5) (by decide +kernel) rfl rfl rfl (by decide +kernel)
def codes1 : List Jvm.Cond := [Jvm.Cond.code x code maxLocals ret, Jvm.Cond.code ({ cls := "com/example/mendmark/mendmark/core/ScannerDeclarationEndPinLaw", name := "pick", desc := "(II)C" } : Jvm.MethodName) method_3_code (3 : Nat) (Option.some Jvm.ClassFile.FieldType.char), Jvm.Cond.code ({ cls := "com/example/mendmark/mendmark/core/Scanner", name := "<init>", desc := "([CIILcom/example/mendmark/mendmark/core/Dtd;Lcom/example/mendmark/mendmark/core/RepairLog;)V" } : Jvm.MethodName) prog_53_method_1_code (6 : Nat) (Option.none : Option Jvm.ClassFile.FieldType), Jvm.Cond.code ({ cls := "java/lang/Object", name := "<init>", desc := "()V" } : Jvm.MethodName) object_method_1_code (1 : Nat) (Option.none : Option Jvm.ClassFile.FieldType), Jvm.Cond.code ({ cls := "com/example/mendmark/mendmark/core/Scanner", name := "declarationEnd", desc := "(I)I" } : Jvm.MethodName) prog_53_method_32_code (6 : Nat) (Option.some Jvm.ClassFile.FieldType.int), Jvm.Cond.code ({ cls := "com/example/mendmark/mendmark/core/ScannerDeclarationEndPinLaw", name := "firstIndex", desc := "([CIIC)I" } : Jvm.MethodName) method_5_code (5 : Nat) (Option.some Jvm.ClassFile.FieldType.int), Jvm.Cond.code ({ cls := "com/example/mendmark/mendmark/core/ScannerDeclarationEndPinLaw", name := "hit", desc := "([CIIIC)Z" } : Jvm.MethodName) method_4_code (5 : Nat) (Option.some Jvm.ClassFile.FieldType.boolean), Jvm.Cond.code ({ cls := "com/example/mendmark/mendmark/core/ScannerDeclarationEndPinLaw", name := "firstClose", desc := "([CII)I" } : Jvm.MethodName) method_7_code (4 : Nat) (Option.some Jvm.ClassFile.FieldType.int), Jvm.Cond.code ({ cls := "com/example/mendmark/mendmark/core/ScannerDeclarationEndPinLaw", name := "closeAt", desc := "([CIII)Z" } : Jvm.MethodName) method_6_code (4 : Nat) (Option.some Jvm.ClassFile.FieldType.boolean)]
set_option maxRecDepth 65536 in
theorem codes_eq : words1.filter isCode = codes1 := rfl
theorem w_codes : ∀ c ∈ words1.filter isCode, c.before args0 about1 = true := by
  rw [codes_eq]
  intro c hc
  simp only [codes1, List.mem_cons, List.not_mem_nil, or_false] at hc
  rcases hc with rfl | rfl | rfl | rfl | rfl | rfl | rfl | rfl | rfl
  · exact w_c0
  · exact w_c1
  · exact w_c2
  · exact w_c3
  · exact w_c4
  · exact w_c5
  · exact w_c6
  · exact w_c7
  · exact w_c8
set_option maxRecDepth 65536 in
theorem w_t1 : (words1.take 24).all (fun c => isCode c || c.before args0 about1) = true := by decide +kernel
set_option maxRecDepth 65536 in
theorem w_t2 : (words1.drop 24).all (fun c => isCode c || c.before args0 about1) = true := by decide +kernel
theorem w_tables : (allAtoms (Jvm.Cond.code x code maxLocals ret :: tables_1)).before args0 about1 = true := by
  rw [allAtoms_all]
  show words1.all (fun c => c.before args0 about1) = true
  refine all_split ?_ w_codes
  rw [← List.take_append_drop 24 words1, List.all_append, w_t1, w_t2]
  rfl
set_option maxRecDepth 65536 in
theorem w_case : (Jvm.Cond.and given_1 narrow_1).before args0 about1 = true := by decide +kernel
theorem w_applies : (headSpec (Jvm.Cond.code x code maxLocals ret :: tables_1) room_1).applies x e0.platform about1 = true :=
  (Spec.applies_iff w_frames).mpr ⟨w_running, w_runnable, w_alone, w_named, w_hears, w_ripe, w_room, w_tables⟩
theorem atStart : AtStart classFile x code maxLocals ret World_1 tables_1 room_1 Calls_1 rest_1 Pre_1 launch0 p0 e0 about1 theMethod args0 below0 :=
  ⟨lists_1, trivial, launch0.admits_env _ _ _, launch0.least_env, fairChoices_fair.cas, fairChoices_fair.clock, w_frames, w_args, w_heap, w_applies, trivial, trivial, w_case⟩
end start1
theorem witness_1 : WitnessClaimed_1 := ⟨start1.p0, start1.e0, start1.about1, start1.theMethod, start1.args0, start1.below0, start1.atStart⟩
end Jvm.Pilot.@@N@@
