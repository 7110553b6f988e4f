import JvmDerived
import JvmDerived.Pilot.@@N@@Statement
import JvmDerived.Pilot.@@N@@Code
set_option linter.unusedVariables false
set_option linter.unusedSimpArgs false
namespace Jvm.RoadKit
open Sem ClassFile Op Lib Jvm.Stand Jvm.Free Jvm.LawKit
section New
variable {p : Program} {l : Launch} {e : Env} {R : Room} {s : State} {m : MethodId} {args : Array Value} {below : List Frame} {meth : Method} {c : Code} {T : State} {locs : List Loc} {cells slots : Nat}
theorem retI (X : Stand p l e R s m args below meth c T locs cells slots) (hx : p.tables.exec = Jvm.exec) {pc : Nat} {Ls : Array Slot} {z : Int32} {rest : List Value} (hret : meth.sig.returnType = some .int) (hd : decode c.code pc = .ok (.ireturn, 1)) {fs : List Frame}
    (hl : ∀ (f : JFrame) (acts : List Action), f.method = m → f.locked = none → f.entered = [] → (doReturn e (T.setTop f) acts (some (.int z))).1 = T.setFrames fs) : Steps p.tables e below (T.setTop (mkF m pc Ls (.int z :: rest))) (T.setFrames fs) := by
  have hm' : T.vm.method? m = some meth := X.method'
  have hn : narrow .int (.int z) = .int z := rfl
  show Steps p.tables e below (T.setTop { method := m, pc := pc, locals := Ls, stack := _ :: rest, locked := none }) _
  jvm_step X.here [X.here.top, hx, hd, hm', hret, hn]
  first | (intro acts; rw [hl _ acts rfl rfl rfl]) | rw [hl _ _ rfl rfl rfl]
  exact Steps.refl _
theorem retL (X : Stand p l e R s m args below meth c T locs cells slots) (hx : p.tables.exec = Jvm.exec) {pc : Nat} {Ls : Array Slot} {z : Int64} {rest : List Value} (hret : meth.sig.returnType = some .long) (hd : decode c.code pc = .ok (.lreturn, 1)) {fs : List Frame}
    (hl : ∀ (f : JFrame) (acts : List Action), f.method = m → f.locked = none → f.entered = [] → (doReturn e (T.setTop f) acts (some (.long z))).1 = T.setFrames fs) : Steps p.tables e below (T.setTop (mkF m pc Ls (.long z :: rest))) (T.setFrames fs) := by
  have hm' : T.vm.method? m = some meth := X.method'
  have hn : narrow .long (.long z) = .long z := rfl
  show Steps p.tables e below (T.setTop { method := m, pc := pc, locals := Ls, stack := _ :: rest, locked := none }) _
  jvm_step X.here [X.here.top, hx, hd, hm', hret, hn]
  first | (intro acts; rw [hl _ acts rfl rfl rfl]) | rw [hl _ _ rfl rfl rfl]
  exact Steps.refl _
end New
end Jvm.RoadKit
namespace Jvm.Pilot.@@N@@
open Jvm Jvm.ClassFile Sem Op Lib Jvm.Free Jvm.Stand Jvm.LawKit Jvm.RoadKit Bundle Jvm.Pilot.@@N@@.Jvm.D
/-- the run comes from pc, with these locals and this stack, to t -/
abbrev SS (p : Program) (e : Env) (below : List Frame) (m : MethodId) (T : State) (pc : Nat) (ls : Array Slot) (st : List Value) (t : State) : Prop := Steps p.tables e below (T.setTop (mkF m pc ls st)) t
/-- a method that writes nothing and returns an int -/
def QI (r : Int32) (h0 : Heap) (n0 : Nat) (v : Option Value) (h : Heap) (L : List Loc) : Prop := v = some (.int r) ∧ Fr n0 L ∧ h = h0
def QL (r : Int64) (h0 : Heap) (n0 : Nat) (v : Option Value) (h : Heap) (L : List Loc) : Prop := v = some (.long r) ∧ Fr n0 L ∧ h = h0
def QV (h0 : Heap) (n0 : Nat) (v : Option Value) (h : Heap) (L : List Loc) : Prop := v = none ∧ Fr n0 L ∧ h = h0
/-- .. that may load String constants -/
def QC (r : Int32) (W0 : Vm → Heap → Prop) (h0 : Heap) (n0 : Nat) (v : Option Value) (h : Heap) (vm : Vm) (L : List Loc) : Prop := v = some (.int r) ∧ Fr n0 L ∧ Ext h0 h ∧ W0 vm h
def QIS (r : Int32) (h0 : Heap) (n0 : Nat) (v : Option Value) (h : Heap) (L : List Loc) : Prop := v = some (.int r) ∧ Fr n0 L ∧ Ext h0 h
theorem own_ext {a b c : Heap} (h : Ext a b) (k : Ext b c) : Ext a c := ⟨Nat.le_trans h.1 k.1, fun x y q => k.2 _ _ (h.2 _ _ q)⟩
theorem own_extw {a h h' : Heap} {x : Addr} {sl : Nat} {v : Value} (E : Ext a h) (W : Wr h h' x sl v) (q : a.size ≤ x) : Ext a h' := by
  have K := Keep.of_wr W
  refine ⟨Nat.le_trans E.1 K.1, fun y c hc => K.2.1 _ _ (E.2 _ _ hc) fun hm => ?_⟩
  have hl := (Array.getElem?_eq_some_iff.mp hc).1
  rw [List.mem_singleton] at hm
  rw [hm] at hl
  exact absurd hl (Nat.not_lt.mpr q)
def QE (n0 : Nat) (v : Option Value) (h : Heap) (L : List Loc) : Prop := v = some (.int 1) ∧ Fr n0 L
theorem d1_0 : decode prog_82_method_10_code 0 = .ok (.iconst 1, 1) := by decide +kernel
theorem d1_1 : decode prog_82_method_10_code 1 = .ok (.istore_n 1, 1) := by decide +kernel
theorem d1_2 : decode prog_82_method_10_code 2 = .ok (.iload_n 0, 1) := by decide +kernel
theorem d1_3 : decode prog_82_method_10_code 3 = .ok (.bipush 7, 2) := by decide +kernel
theorem d1_5 : decode prog_82_method_10_code 5 = .ok (.iushr, 1) := by decide +kernel
theorem d1_6 : decode prog_82_method_10_code 6 = .ok (.istore_n 2, 1) := by decide +kernel
theorem d1_7 : decode prog_82_method_10_code 7 = .ok (.iload_n 2, 1) := by decide +kernel
theorem d1_8 : decode prog_82_method_10_code 8 = .ok (.ifCond .eq 14, 3) := by decide +kernel
theorem d1_11 : decode prog_82_method_10_code 11 = .ok (.iinc 1 1, 3) := by decide +kernel
theorem d1_14 : decode prog_82_method_10_code 14 = .ok (.iload_n 2, 1) := by decide +kernel
theorem d1_15 : decode prog_82_method_10_code 15 = .ok (.bipush 7, 2) := by decide +kernel
theorem d1_17 : decode prog_82_method_10_code 17 = .ok (.iushr, 1) := by decide +kernel
theorem d1_18 : decode prog_82_method_10_code 18 = .ok (.istore_n 2, 1) := by decide +kernel
theorem d1_19 : decode prog_82_method_10_code 19 = .ok (.goto (-12), 3) := by decide +kernel
theorem d1_22 : decode prog_82_method_10_code 22 = .ok (.iload_n 1, 1) := by decide +kernel
theorem d1_23 : decode prog_82_method_10_code 23 = .ok (.ireturn, 1) := by decide +kernel
theorem pn_1 : plainName "com/example/reston/reston/store/ByteBuilder" = true := by first | (simp [plainName, overriddenIn]; done) | decide +kernel
theorem ef_1 (m : MethodId) (p1 : Int32) : entryFrame m #[(.int p1)] 3 = mkF m 0 #[iv p1, .unset, .unset] [] := by first | (simp [entryFrame, mkF, argsToLocals, Value.category]; done) | rfl
def f1 (p1 : Int32)  : Int32 := (if ((p1.toUInt32 >>> ((7 : Int32) &&& 31).toUInt32).toInt32) = (0 : Int32) then (1 : Int32) else (if ((((p1.toUInt32 >>> ((7 : Int32) &&& 31).toUInt32).toInt32).toUInt32 >>> ((7 : Int32) &&& 31).toUInt32).toInt32) = (0 : Int32) then (2 : Int32) else (if ((((((p1.toUInt32 >>> ((7 : Int32) &&& 31).toUInt32).toInt32).toUInt32 >>> ((7 : Int32) &&& 31).toUInt32).toInt32).toUInt32 >>> ((7 : Int32) &&& 31).toUInt32).toInt32) = (0 : Int32) then (3 : Int32) else (if ((((((((p1.toUInt32 >>> ((7 : Int32) &&& 31).toUInt32).toInt32).toUInt32 >>> ((7 : Int32) &&& 31).toUInt32).toInt32).toUInt32 >>> ((7 : Int32) &&& 31).toUInt32).toInt32).toUInt32 >>> ((7 : Int32) &&& 31).toUInt32).toInt32) = (0 : Int32) then (4 : Int32) else (5 : Int32)))))
theorem own_l1_0 (p1 : Int32)  (hc2 : ¬ (((p1.toUInt32 >>> ((7 : Int32) &&& 31).toUInt32).toInt32) = (0 : Int32))) (hc5 : ¬ (((((p1.toUInt32 >>> ((7 : Int32) &&& 31).toUInt32).toInt32).toUInt32 >>> ((7 : Int32) &&& 31).toUInt32).toInt32) = (0 : Int32))) (hc8 : ¬ (((((((p1.toUInt32 >>> ((7 : Int32) &&& 31).toUInt32).toInt32).toUInt32 >>> ((7 : Int32) &&& 31).toUInt32).toInt32).toUInt32 >>> ((7 : Int32) &&& 31).toUInt32).toInt32) = (0 : Int32))) (hc11 : ¬ (((((((((p1.toUInt32 >>> ((7 : Int32) &&& 31).toUInt32).toInt32).toUInt32 >>> ((7 : Int32) &&& 31).toUInt32).toInt32).toUInt32 >>> ((7 : Int32) &&& 31).toUInt32).toInt32).toUInt32 >>> ((7 : Int32) &&& 31).toUInt32).toInt32) = (0 : Int32))) : ((((((((((p1.toUInt32 >>> ((7 : Int32) &&& 31).toUInt32).toInt32).toUInt32 >>> ((7 : Int32) &&& 31).toUInt32).toInt32).toUInt32 >>> ((7 : Int32) &&& 31).toUInt32).toInt32).toUInt32 >>> ((7 : Int32) &&& 31).toUInt32).toInt32).toUInt32 >>> ((7 : Int32) &&& 31).toUInt32).toInt32) = (0 : Int32) := by
  have s0 := c_iushr p1 (7 : Int32) 7 (by decide) (by decide)
  have s1 := c_iushr ((p1.toUInt32 >>> ((7 : Int32) &&& 31).toUInt32).toInt32) (7 : Int32) 7 (by decide) (by decide)
  have s2 := c_iushr ((((p1.toUInt32 >>> ((7 : Int32) &&& 31).toUInt32).toInt32).toUInt32 >>> ((7 : Int32) &&& 31).toUInt32).toInt32) (7 : Int32) 7 (by decide) (by decide)
  have s3 := c_iushr ((((((p1.toUInt32 >>> ((7 : Int32) &&& 31).toUInt32).toInt32).toUInt32 >>> ((7 : Int32) &&& 31).toUInt32).toInt32).toUInt32 >>> ((7 : Int32) &&& 31).toUInt32).toInt32) (7 : Int32) 7 (by decide) (by decide)
  have s4 := c_iushr ((((((((p1.toUInt32 >>> ((7 : Int32) &&& 31).toUInt32).toInt32).toUInt32 >>> ((7 : Int32) &&& 31).toUInt32).toInt32).toUInt32 >>> ((7 : Int32) &&& 31).toUInt32).toInt32).toUInt32 >>> ((7 : Int32) &&& 31).toUInt32).toInt32) (7 : Int32) 7 (by decide) (by decide)
  have r := rng32 p1
  rw [← Int32.toInt_inj]
  have L0 : (0 : Int32).toInt = 0 := by decide
  have e128 : ((2 ^ 7 : Nat) : Int) = 128 := by decide
  rw [e128] at s0 s1 s2 s3 s4
  clear hc2 hc5 hc8 hc11
  omega
set_option maxRecDepth 65536 in
set_option maxHeartbeats 40000000 in
theorem rm1 (l : Launch) (Z : State) (a0 : Array Value) (hw : ∀ d ∈ tables_1, d.before a0 Z = true) (ws : List Jvm.Cond) (p1 : Int32)  (h0 : Heap) (n0 : Nat) (Z0 : n0 ≤ h0.size)  :
    MetFree l (⟨"com/example/reston/reston/store/ByteBuilder", "varintLength", "(I)I"⟩ : MethodName) (head1 (Jvm.Cond.code (⟨"com/example/reston/reston/store/ByteBuilder", "varintLength", "(I)I"⟩ : MethodName) prog_82_method_10_code 3 (some .int) :: ws) ({ frames := 0, cells := 0, slots := 0, locals := 0 } : Room)) (fun a U => a = #[(.int p1)] ∧ Z.Warmed39 U.vm ∧ U.heap = h0) (fun _ _ _ _ _ => True) (fun _ U o U' => ∃ v L, o = .returned v ∧ QI (f1 p1) h0 n0 v U'.heap L ∧ FrameEnd U o U' L ({ frames := 0, cells := 0, slots := 0, locals := 0 } : Room).cells ({ frames := 0, cells := 0, slots := 0, locals := 0 } : Room).slots) := by
  refine MetFree.of_bodySF (plainFor_of_name pn_1) hisR ?_
  intro p e s m args below meth c s₁ Bd hml0 hP hK
  obtain ⟨rfl, hZ, hh⟩ := hP
  have hx := Bd.exec
  have hby := Bd.bytes
  have hml : c.maxLocals = 3 := hml0
  have hown : s.vm.findClass "com/example/reston/reston/store/ByteBuilder" = some m.cls := findClass_of_methodNamed Bd.named
  have hnm := (name_of_methodNamed Bd.named Bd.method).1
  have X0 : Stand p l e ({ frames := 0, cells := 0, slots := 0, locals := 0 } : Room) s m #[(.int p1)] below meth c s₁ [] 0 0 := Stand.of_body Bd
  have e0 : s₁.heap = h0 := by rw [← hh, Bd.state]; rfl
  have N0 := Fr.nil n0
  obtain ⟨B, hB, pre0⟩ : ∃ B : State → Prop, (∀ t, B t → Steps p.tables e below (s₁.setTop (entryFrame m #[(.int p1)] 3)) t) ∧ ∀ t, SS p e below m s₁ 0 #[iv p1, .unset, .unset] [] t → B t := ⟨_, fun _ q => q, fun t kk => castTop (ef_1 m p1) kk⟩
  have pre1 : ∀ t, SS p e below m s₁ 8 #[iv p1, iv (1 : Int32), iv ((p1.toUInt32 >>> ((7 : Int32) &&& 31).toUInt32).toInt32)] [(.int ((p1.toUInt32 >>> ((7 : Int32) &&& 31).toUInt32).toInt32))] t → B t := fun t kk => pre0 t (by
    show SS p e below m s₁ 0 #[iv p1, .unset, .unset] [] _
    refine XS.iconst X0.here hx rfl (hb hby d1_0) ?_
    show SS p e below m s₁ 1 #[iv p1, .unset, .unset] [(.int (1 : Int32))] _
    refine XS.istoreN X0.here hx rfl (hb hby d1_1) rfl (l' := #[iv p1, iv (1 : Int32), .unset]) rfl ?_
    show SS p e below m s₁ 2 #[iv p1, iv (1 : Int32), .unset] [] _
    refine XS.iloadN X0.here hx rfl (hb hby d1_2) rfl ?_
    show SS p e below m s₁ 3 #[iv p1, iv (1 : Int32), .unset] [(.int p1)] _
    refine XS.bipush X0.here hx rfl (hb hby d1_3) ?_
    show SS p e below m s₁ 5 #[iv p1, iv (1 : Int32), .unset] [(.int (7 : Int32)), (.int p1)] _
    refine XS.iushr X0.here hx rfl (hb hby d1_5) rfl ?_
    show SS p e below m s₁ 6 #[iv p1, iv (1 : Int32), .unset] [(.int ((p1.toUInt32 >>> ((7 : Int32) &&& 31).toUInt32).toInt32))] _
    refine XS.istoreN X0.here hx rfl (hb hby d1_6) rfl (l' := #[iv p1, iv (1 : Int32), iv ((p1.toUInt32 >>> ((7 : Int32) &&& 31).toUInt32).toInt32)]) rfl ?_
    show SS p e below m s₁ 7 #[iv p1, iv (1 : Int32), iv ((p1.toUInt32 >>> ((7 : Int32) &&& 31).toUInt32).toInt32)] [] _
    refine XS.iloadN X0.here hx rfl (hb hby d1_7) rfl ?_
    show SS p e below m s₁ 8 #[iv p1, iv (1 : Int32), iv ((p1.toUInt32 >>> ((7 : Int32) &&& 31).toUInt32).toInt32)] [(.int ((p1.toUInt32 >>> ((7 : Int32) &&& 31).toUInt32).toInt32))] _
    exact kk)
  by_cases hc2 : ((p1.toUInt32 >>> ((7 : Int32) &&& 31).toUInt32).toInt32) = (0 : Int32)
  · have pre3 : ∀ t, SS p e below m s₁ 23 #[iv p1, iv (1 : Int32), iv ((p1.toUInt32 >>> ((7 : Int32) &&& 31).toUInt32).toInt32)] [(.int (1 : Int32))] t → B t := fun t kk => pre1 t (by
      refine XS.ifYes X0.here hx rfl (pc0 := 8) (pc' := 22) rfl (hb hby d1_8) rfl ((if0 _ _).trans (teq hc2).1) (by decide) (by decide) ?_
      show SS p e below m s₁ 22 #[iv p1, iv (1 : Int32), iv ((p1.toUInt32 >>> ((7 : Int32) &&& 31).toUInt32).toInt32)] [] _
      refine XS.iloadN X0.here hx rfl (hb hby d1_22) rfl ?_
      show SS p e below m s₁ 23 #[iv p1, iv (1 : Int32), iv ((p1.toUInt32 >>> ((7 : Int32) &&& 31).toUInt32).toInt32)] [(.int (1 : Int32))] _
      exact kk)
    obtain ⟨fs, hr, hrun, hended, hW, hsame⟩ := X0.leave (v := some (.int (1 : Int32))) (fun h => by rw [Bd.returns] at h; cases h)
    refine ⟨_, _, hB _ (pre3 _ ?_), hrun, hended, _, _, rfl, ?_, ⟨_, rfl⟩, hW, hsame.mono (by decide) (by decide)⟩
    · exact retI X0 hx Bd.returns (hb hby d1_23) hr
    · exact ⟨by show _ = some (Value.int (f1 p1)); rw [f1, if_pos hc2], N0, e0⟩
  · have pre4 : ∀ t, SS p e below m s₁ 8 #[iv p1, iv (2 : Int32), iv ((((p1.toUInt32 >>> ((7 : Int32) &&& 31).toUInt32).toInt32).toUInt32 >>> ((7 : Int32) &&& 31).toUInt32).toInt32)] [(.int ((((p1.toUInt32 >>> ((7 : Int32) &&& 31).toUInt32).toInt32).toUInt32 >>> ((7 : Int32) &&& 31).toUInt32).toInt32))] t → B t := fun t kk => pre1 t (by
      refine XS.ifNo X0.here hx rfl (hb hby d1_8) rfl ((if0 _ _).trans (feq hc2).1) ?_
      show SS p e below m s₁ 11 #[iv p1, iv (1 : Int32), iv ((p1.toUInt32 >>> ((7 : Int32) &&& 31).toUInt32).toInt32)] [] _
      refine XS.iinc X0.here hx rfl (hb hby d1_11) rfl (l' := #[iv p1, iv (2 : Int32), iv ((p1.toUInt32 >>> ((7 : Int32) &&& 31).toUInt32).toInt32)]) rfl ?_
      show SS p e below m s₁ 14 #[iv p1, iv (2 : Int32), iv ((p1.toUInt32 >>> ((7 : Int32) &&& 31).toUInt32).toInt32)] [] _
      refine XS.iloadN X0.here hx rfl (hb hby d1_14) rfl ?_
      show SS p e below m s₁ 15 #[iv p1, iv (2 : Int32), iv ((p1.toUInt32 >>> ((7 : Int32) &&& 31).toUInt32).toInt32)] [(.int ((p1.toUInt32 >>> ((7 : Int32) &&& 31).toUInt32).toInt32))] _
      refine XS.bipush X0.here hx rfl (hb hby d1_15) ?_
      show SS p e below m s₁ 17 #[iv p1, iv (2 : Int32), iv ((p1.toUInt32 >>> ((7 : Int32) &&& 31).toUInt32).toInt32)] [(.int (7 : Int32)), (.int ((p1.toUInt32 >>> ((7 : Int32) &&& 31).toUInt32).toInt32))] _
      refine XS.iushr X0.here hx rfl (hb hby d1_17) rfl ?_
      show SS p e below m s₁ 18 #[iv p1, iv (2 : Int32), iv ((p1.toUInt32 >>> ((7 : Int32) &&& 31).toUInt32).toInt32)] [(.int ((((p1.toUInt32 >>> ((7 : Int32) &&& 31).toUInt32).toInt32).toUInt32 >>> ((7 : Int32) &&& 31).toUInt32).toInt32))] _
      refine XS.istoreN X0.here hx rfl (hb hby d1_18) rfl (l' := #[iv p1, iv (2 : Int32), iv ((((p1.toUInt32 >>> ((7 : Int32) &&& 31).toUInt32).toInt32).toUInt32 >>> ((7 : Int32) &&& 31).toUInt32).toInt32)]) rfl ?_
      show SS p e below m s₁ 19 #[iv p1, iv (2 : Int32), iv ((((p1.toUInt32 >>> ((7 : Int32) &&& 31).toUInt32).toInt32).toUInt32 >>> ((7 : Int32) &&& 31).toUInt32).toInt32)] [] _
      refine XS.goto X0.here hx rfl (pc0 := 19) (pc' := 7) rfl (hb hby d1_19) (by decide) (by decide) ?_
      show SS p e below m s₁ 7 #[iv p1, iv (2 : Int32), iv ((((p1.toUInt32 >>> ((7 : Int32) &&& 31).toUInt32).toInt32).toUInt32 >>> ((7 : Int32) &&& 31).toUInt32).toInt32)] [] _
      refine XS.iloadN X0.here hx rfl (hb hby d1_7) rfl ?_
      show SS p e below m s₁ 8 #[iv p1, iv (2 : Int32), iv ((((p1.toUInt32 >>> ((7 : Int32) &&& 31).toUInt32).toInt32).toUInt32 >>> ((7 : Int32) &&& 31).toUInt32).toInt32)] [(.int ((((p1.toUInt32 >>> ((7 : Int32) &&& 31).toUInt32).toInt32).toUInt32 >>> ((7 : Int32) &&& 31).toUInt32).toInt32))] _
      exact kk)
    by_cases hc5 : ((((p1.toUInt32 >>> ((7 : Int32) &&& 31).toUInt32).toInt32).toUInt32 >>> ((7 : Int32) &&& 31).toUInt32).toInt32) = (0 : Int32)
    · have pre6 : ∀ t, SS p e below m s₁ 23 #[iv p1, iv (2 : Int32), iv ((((p1.toUInt32 >>> ((7 : Int32) &&& 31).toUInt32).toInt32).toUInt32 >>> ((7 : Int32) &&& 31).toUInt32).toInt32)] [(.int (2 : Int32))] t → B t := fun t kk => pre4 t (by
        refine XS.ifYes X0.here hx rfl (pc0 := 8) (pc' := 22) rfl (hb hby d1_8) rfl ((if0 _ _).trans (teq hc5).1) (by decide) (by decide) ?_
        show SS p e below m s₁ 22 #[iv p1, iv (2 : Int32), iv ((((p1.toUInt32 >>> ((7 : Int32) &&& 31).toUInt32).toInt32).toUInt32 >>> ((7 : Int32) &&& 31).toUInt32).toInt32)] [] _
        refine XS.iloadN X0.here hx rfl (hb hby d1_22) rfl ?_
        show SS p e below m s₁ 23 #[iv p1, iv (2 : Int32), iv ((((p1.toUInt32 >>> ((7 : Int32) &&& 31).toUInt32).toInt32).toUInt32 >>> ((7 : Int32) &&& 31).toUInt32).toInt32)] [(.int (2 : Int32))] _
        exact kk)
      obtain ⟨fs, hr, hrun, hended, hW, hsame⟩ := X0.leave (v := some (.int (2 : Int32))) (fun h => by rw [Bd.returns] at h; cases h)
      refine ⟨_, _, hB _ (pre6 _ ?_), hrun, hended, _, _, rfl, ?_, ⟨_, rfl⟩, hW, hsame.mono (by decide) (by decide)⟩
      · exact retI X0 hx Bd.returns (hb hby d1_23) hr
      · exact ⟨by show _ = some (Value.int (f1 p1)); rw [f1, if_neg hc2, if_pos hc5], N0, e0⟩
    · have pre7 : ∀ t, SS p e below m s₁ 8 #[iv p1, iv (3 : Int32), iv ((((((p1.toUInt32 >>> ((7 : Int32) &&& 31).toUInt32).toInt32).toUInt32 >>> ((7 : Int32) &&& 31).toUInt32).toInt32).toUInt32 >>> ((7 : Int32) &&& 31).toUInt32).toInt32)] [(.int ((((((p1.toUInt32 >>> ((7 : Int32) &&& 31).toUInt32).toInt32).toUInt32 >>> ((7 : Int32) &&& 31).toUInt32).toInt32).toUInt32 >>> ((7 : Int32) &&& 31).toUInt32).toInt32))] t → B t := fun t kk => pre4 t (by
        refine XS.ifNo X0.here hx rfl (hb hby d1_8) rfl ((if0 _ _).trans (feq hc5).1) ?_
        show SS p e below m s₁ 11 #[iv p1, iv (2 : Int32), iv ((((p1.toUInt32 >>> ((7 : Int32) &&& 31).toUInt32).toInt32).toUInt32 >>> ((7 : Int32) &&& 31).toUInt32).toInt32)] [] _
        refine XS.iinc X0.here hx rfl (hb hby d1_11) rfl (l' := #[iv p1, iv (3 : Int32), iv ((((p1.toUInt32 >>> ((7 : Int32) &&& 31).toUInt32).toInt32).toUInt32 >>> ((7 : Int32) &&& 31).toUInt32).toInt32)]) rfl ?_
        show SS p e below m s₁ 14 #[iv p1, iv (3 : Int32), iv ((((p1.toUInt32 >>> ((7 : Int32) &&& 31).toUInt32).toInt32).toUInt32 >>> ((7 : Int32) &&& 31).toUInt32).toInt32)] [] _
        refine XS.iloadN X0.here hx rfl (hb hby d1_14) rfl ?_
        show SS p e below m s₁ 15 #[iv p1, iv (3 : Int32), iv ((((p1.toUInt32 >>> ((7 : Int32) &&& 31).toUInt32).toInt32).toUInt32 >>> ((7 : Int32) &&& 31).toUInt32).toInt32)] [(.int ((((p1.toUInt32 >>> ((7 : Int32) &&& 31).toUInt32).toInt32).toUInt32 >>> ((7 : Int32) &&& 31).toUInt32).toInt32))] _
        refine XS.bipush X0.here hx rfl (hb hby d1_15) ?_
        show SS p e below m s₁ 17 #[iv p1, iv (3 : Int32), iv ((((p1.toUInt32 >>> ((7 : Int32) &&& 31).toUInt32).toInt32).toUInt32 >>> ((7 : Int32) &&& 31).toUInt32).toInt32)] [(.int (7 : Int32)), (.int ((((p1.toUInt32 >>> ((7 : Int32) &&& 31).toUInt32).toInt32).toUInt32 >>> ((7 : Int32) &&& 31).toUInt32).toInt32))] _
        refine XS.iushr X0.here hx rfl (hb hby d1_17) rfl ?_
        show SS p e below m s₁ 18 #[iv p1, iv (3 : Int32), iv ((((p1.toUInt32 >>> ((7 : Int32) &&& 31).toUInt32).toInt32).toUInt32 >>> ((7 : Int32) &&& 31).toUInt32).toInt32)] [(.int ((((((p1.toUInt32 >>> ((7 : Int32) &&& 31).toUInt32).toInt32).toUInt32 >>> ((7 : Int32) &&& 31).toUInt32).toInt32).toUInt32 >>> ((7 : Int32) &&& 31).toUInt32).toInt32))] _
        refine XS.istoreN X0.here hx rfl (hb hby d1_18) rfl (l' := #[iv p1, iv (3 : Int32), iv ((((((p1.toUInt32 >>> ((7 : Int32) &&& 31).toUInt32).toInt32).toUInt32 >>> ((7 : Int32) &&& 31).toUInt32).toInt32).toUInt32 >>> ((7 : Int32) &&& 31).toUInt32).toInt32)]) rfl ?_
        show SS p e below m s₁ 19 #[iv p1, iv (3 : Int32), iv ((((((p1.toUInt32 >>> ((7 : Int32) &&& 31).toUInt32).toInt32).toUInt32 >>> ((7 : Int32) &&& 31).toUInt32).toInt32).toUInt32 >>> ((7 : Int32) &&& 31).toUInt32).toInt32)] [] _
        refine XS.goto X0.here hx rfl (pc0 := 19) (pc' := 7) rfl (hb hby d1_19) (by decide) (by decide) ?_
        show SS p e below m s₁ 7 #[iv p1, iv (3 : Int32), iv ((((((p1.toUInt32 >>> ((7 : Int32) &&& 31).toUInt32).toInt32).toUInt32 >>> ((7 : Int32) &&& 31).toUInt32).toInt32).toUInt32 >>> ((7 : Int32) &&& 31).toUInt32).toInt32)] [] _
        refine XS.iloadN X0.here hx rfl (hb hby d1_7) rfl ?_
        show SS p e below m s₁ 8 #[iv p1, iv (3 : Int32), iv ((((((p1.toUInt32 >>> ((7 : Int32) &&& 31).toUInt32).toInt32).toUInt32 >>> ((7 : Int32) &&& 31).toUInt32).toInt32).toUInt32 >>> ((7 : Int32) &&& 31).toUInt32).toInt32)] [(.int ((((((p1.toUInt32 >>> ((7 : Int32) &&& 31).toUInt32).toInt32).toUInt32 >>> ((7 : Int32) &&& 31).toUInt32).toInt32).toUInt32 >>> ((7 : Int32) &&& 31).toUInt32).toInt32))] _
        exact kk)
      by_cases hc8 : ((((((p1.toUInt32 >>> ((7 : Int32) &&& 31).toUInt32).toInt32).toUInt32 >>> ((7 : Int32) &&& 31).toUInt32).toInt32).toUInt32 >>> ((7 : Int32) &&& 31).toUInt32).toInt32) = (0 : Int32)
      · have pre9 : ∀ t, SS p e below m s₁ 23 #[iv p1, iv (3 : Int32), iv ((((((p1.toUInt32 >>> ((7 : Int32) &&& 31).toUInt32).toInt32).toUInt32 >>> ((7 : Int32) &&& 31).toUInt32).toInt32).toUInt32 >>> ((7 : Int32) &&& 31).toUInt32).toInt32)] [(.int (3 : Int32))] t → B t := fun t kk => pre7 t (by
          refine XS.ifYes X0.here hx rfl (pc0 := 8) (pc' := 22) rfl (hb hby d1_8) rfl ((if0 _ _).trans (teq hc8).1) (by decide) (by decide) ?_
          show SS p e below m s₁ 22 #[iv p1, iv (3 : Int32), iv ((((((p1.toUInt32 >>> ((7 : Int32) &&& 31).toUInt32).toInt32).toUInt32 >>> ((7 : Int32) &&& 31).toUInt32).toInt32).toUInt32 >>> ((7 : Int32) &&& 31).toUInt32).toInt32)] [] _
          refine XS.iloadN X0.here hx rfl (hb hby d1_22) rfl ?_
          show SS p e below m s₁ 23 #[iv p1, iv (3 : Int32), iv ((((((p1.toUInt32 >>> ((7 : Int32) &&& 31).toUInt32).toInt32).toUInt32 >>> ((7 : Int32) &&& 31).toUInt32).toInt32).toUInt32 >>> ((7 : Int32) &&& 31).toUInt32).toInt32)] [(.int (3 : Int32))] _
          exact kk)
        obtain ⟨fs, hr, hrun, hended, hW, hsame⟩ := X0.leave (v := some (.int (3 : Int32))) (fun h => by rw [Bd.returns] at h; cases h)
        refine ⟨_, _, hB _ (pre9 _ ?_), hrun, hended, _, _, rfl, ?_, ⟨_, rfl⟩, hW, hsame.mono (by decide) (by decide)⟩
        · exact retI X0 hx Bd.returns (hb hby d1_23) hr
        · exact ⟨by show _ = some (Value.int (f1 p1)); rw [f1, if_neg hc2, if_neg hc5, if_pos hc8], N0, e0⟩
      · have pre10 : ∀ t, SS p e below m s₁ 8 #[iv p1, iv (4 : Int32), iv ((((((((p1.toUInt32 >>> ((7 : Int32) &&& 31).toUInt32).toInt32).toUInt32 >>> ((7 : Int32) &&& 31).toUInt32).toInt32).toUInt32 >>> ((7 : Int32) &&& 31).toUInt32).toInt32).toUInt32 >>> ((7 : Int32) &&& 31).toUInt32).toInt32)] [(.int ((((((((p1.toUInt32 >>> ((7 : Int32) &&& 31).toUInt32).toInt32).toUInt32 >>> ((7 : Int32) &&& 31).toUInt32).toInt32).toUInt32 >>> ((7 : Int32) &&& 31).toUInt32).toInt32).toUInt32 >>> ((7 : Int32) &&& 31).toUInt32).toInt32))] t → B t := fun t kk => pre7 t (by
          refine XS.ifNo X0.here hx rfl (hb hby d1_8) rfl ((if0 _ _).trans (feq hc8).1) ?_
          show SS p e below m s₁ 11 #[iv p1, iv (3 : Int32), iv ((((((p1.toUInt32 >>> ((7 : Int32) &&& 31).toUInt32).toInt32).toUInt32 >>> ((7 : Int32) &&& 31).toUInt32).toInt32).toUInt32 >>> ((7 : Int32) &&& 31).toUInt32).toInt32)] [] _
          refine XS.iinc X0.here hx rfl (hb hby d1_11) rfl (l' := #[iv p1, iv (4 : Int32), iv ((((((p1.toUInt32 >>> ((7 : Int32) &&& 31).toUInt32).toInt32).toUInt32 >>> ((7 : Int32) &&& 31).toUInt32).toInt32).toUInt32 >>> ((7 : Int32) &&& 31).toUInt32).toInt32)]) rfl ?_
          show SS p e below m s₁ 14 #[iv p1, iv (4 : Int32), iv ((((((p1.toUInt32 >>> ((7 : Int32) &&& 31).toUInt32).toInt32).toUInt32 >>> ((7 : Int32) &&& 31).toUInt32).toInt32).toUInt32 >>> ((7 : Int32) &&& 31).toUInt32).toInt32)] [] _
          refine XS.iloadN X0.here hx rfl (hb hby d1_14) rfl ?_
          show SS p e below m s₁ 15 #[iv p1, iv (4 : Int32), iv ((((((p1.toUInt32 >>> ((7 : Int32) &&& 31).toUInt32).toInt32).toUInt32 >>> ((7 : Int32) &&& 31).toUInt32).toInt32).toUInt32 >>> ((7 : Int32) &&& 31).toUInt32).toInt32)] [(.int ((((((p1.toUInt32 >>> ((7 : Int32) &&& 31).toUInt32).toInt32).toUInt32 >>> ((7 : Int32) &&& 31).toUInt32).toInt32).toUInt32 >>> ((7 : Int32) &&& 31).toUInt32).toInt32))] _
          refine XS.bipush X0.here hx rfl (hb hby d1_15) ?_
          show SS p e below m s₁ 17 #[iv p1, iv (4 : Int32), iv ((((((p1.toUInt32 >>> ((7 : Int32) &&& 31).toUInt32).toInt32).toUInt32 >>> ((7 : Int32) &&& 31).toUInt32).toInt32).toUInt32 >>> ((7 : Int32) &&& 31).toUInt32).toInt32)] [(.int (7 : Int32)), (.int ((((((p1.toUInt32 >>> ((7 : Int32) &&& 31).toUInt32).toInt32).toUInt32 >>> ((7 : Int32) &&& 31).toUInt32).toInt32).toUInt32 >>> ((7 : Int32) &&& 31).toUInt32).toInt32))] _
          refine XS.iushr X0.here hx rfl (hb hby d1_17) rfl ?_
          show SS p e below m s₁ 18 #[iv p1, iv (4 : Int32), iv ((((((p1.toUInt32 >>> ((7 : Int32) &&& 31).toUInt32).toInt32).toUInt32 >>> ((7 : Int32) &&& 31).toUInt32).toInt32).toUInt32 >>> ((7 : Int32) &&& 31).toUInt32).toInt32)] [(.int ((((((((p1.toUInt32 >>> ((7 : Int32) &&& 31).toUInt32).toInt32).toUInt32 >>> ((7 : Int32) &&& 31).toUInt32).toInt32).toUInt32 >>> ((7 : Int32) &&& 31).toUInt32).toInt32).toUInt32 >>> ((7 : Int32) &&& 31).toUInt32).toInt32))] _
          refine XS.istoreN X0.here hx rfl (hb hby d1_18) rfl (l' := #[iv p1, iv (4 : Int32), iv ((((((((p1.toUInt32 >>> ((7 : Int32) &&& 31).toUInt32).toInt32).toUInt32 >>> ((7 : Int32) &&& 31).toUInt32).toInt32).toUInt32 >>> ((7 : Int32) &&& 31).toUInt32).toInt32).toUInt32 >>> ((7 : Int32) &&& 31).toUInt32).toInt32)]) rfl ?_
          show SS p e below m s₁ 19 #[iv p1, iv (4 : Int32), iv ((((((((p1.toUInt32 >>> ((7 : Int32) &&& 31).toUInt32).toInt32).toUInt32 >>> ((7 : Int32) &&& 31).toUInt32).toInt32).toUInt32 >>> ((7 : Int32) &&& 31).toUInt32).toInt32).toUInt32 >>> ((7 : Int32) &&& 31).toUInt32).toInt32)] [] _
          refine XS.goto X0.here hx rfl (pc0 := 19) (pc' := 7) rfl (hb hby d1_19) (by decide) (by decide) ?_
          show SS p e below m s₁ 7 #[iv p1, iv (4 : Int32), iv ((((((((p1.toUInt32 >>> ((7 : Int32) &&& 31).toUInt32).toInt32).toUInt32 >>> ((7 : Int32) &&& 31).toUInt32).toInt32).toUInt32 >>> ((7 : Int32) &&& 31).toUInt32).toInt32).toUInt32 >>> ((7 : Int32) &&& 31).toUInt32).toInt32)] [] _
          refine XS.iloadN X0.here hx rfl (hb hby d1_7) rfl ?_
          show SS p e below m s₁ 8 #[iv p1, iv (4 : Int32), iv ((((((((p1.toUInt32 >>> ((7 : Int32) &&& 31).toUInt32).toInt32).toUInt32 >>> ((7 : Int32) &&& 31).toUInt32).toInt32).toUInt32 >>> ((7 : Int32) &&& 31).toUInt32).toInt32).toUInt32 >>> ((7 : Int32) &&& 31).toUInt32).toInt32)] [(.int ((((((((p1.toUInt32 >>> ((7 : Int32) &&& 31).toUInt32).toInt32).toUInt32 >>> ((7 : Int32) &&& 31).toUInt32).toInt32).toUInt32 >>> ((7 : Int32) &&& 31).toUInt32).toInt32).toUInt32 >>> ((7 : Int32) &&& 31).toUInt32).toInt32))] _
          exact kk)
        by_cases hc11 : ((((((((p1.toUInt32 >>> ((7 : Int32) &&& 31).toUInt32).toInt32).toUInt32 >>> ((7 : Int32) &&& 31).toUInt32).toInt32).toUInt32 >>> ((7 : Int32) &&& 31).toUInt32).toInt32).toUInt32 >>> ((7 : Int32) &&& 31).toUInt32).toInt32) = (0 : Int32)
        · have pre12 : ∀ t, SS p e below m s₁ 23 #[iv p1, iv (4 : Int32), iv ((((((((p1.toUInt32 >>> ((7 : Int32) &&& 31).toUInt32).toInt32).toUInt32 >>> ((7 : Int32) &&& 31).toUInt32).toInt32).toUInt32 >>> ((7 : Int32) &&& 31).toUInt32).toInt32).toUInt32 >>> ((7 : Int32) &&& 31).toUInt32).toInt32)] [(.int (4 : Int32))] t → B t := fun t kk => pre10 t (by
            refine XS.ifYes X0.here hx rfl (pc0 := 8) (pc' := 22) rfl (hb hby d1_8) rfl ((if0 _ _).trans (teq hc11).1) (by decide) (by decide) ?_
            show SS p e below m s₁ 22 #[iv p1, iv (4 : Int32), iv ((((((((p1.toUInt32 >>> ((7 : Int32) &&& 31).toUInt32).toInt32).toUInt32 >>> ((7 : Int32) &&& 31).toUInt32).toInt32).toUInt32 >>> ((7 : Int32) &&& 31).toUInt32).toInt32).toUInt32 >>> ((7 : Int32) &&& 31).toUInt32).toInt32)] [] _
            refine XS.iloadN X0.here hx rfl (hb hby d1_22) rfl ?_
            show SS p e below m s₁ 23 #[iv p1, iv (4 : Int32), iv ((((((((p1.toUInt32 >>> ((7 : Int32) &&& 31).toUInt32).toInt32).toUInt32 >>> ((7 : Int32) &&& 31).toUInt32).toInt32).toUInt32 >>> ((7 : Int32) &&& 31).toUInt32).toInt32).toUInt32 >>> ((7 : Int32) &&& 31).toUInt32).toInt32)] [(.int (4 : Int32))] _
            exact kk)
          obtain ⟨fs, hr, hrun, hended, hW, hsame⟩ := X0.leave (v := some (.int (4 : Int32))) (fun h => by rw [Bd.returns] at h; cases h)
          refine ⟨_, _, hB _ (pre12 _ ?_), hrun, hended, _, _, rfl, ?_, ⟨_, rfl⟩, hW, hsame.mono (by decide) (by decide)⟩
          · exact retI X0 hx Bd.returns (hb hby d1_23) hr
          · exact ⟨by show _ = some (Value.int (f1 p1)); rw [f1, if_neg hc2, if_neg hc5, if_neg hc8, if_pos hc11], N0, e0⟩
        · have pre13 : ∀ t, SS p e below m s₁ 23 #[iv p1, iv (5 : Int32), iv ((((((((((p1.toUInt32 >>> ((7 : Int32) &&& 31).toUInt32).toInt32).toUInt32 >>> ((7 : Int32) &&& 31).toUInt32).toInt32).toUInt32 >>> ((7 : Int32) &&& 31).toUInt32).toInt32).toUInt32 >>> ((7 : Int32) &&& 31).toUInt32).toInt32).toUInt32 >>> ((7 : Int32) &&& 31).toUInt32).toInt32)] [(.int (5 : Int32))] t → B t := fun t kk => pre10 t (by
            refine XS.ifNo X0.here hx rfl (hb hby d1_8) rfl ((if0 _ _).trans (feq hc11).1) ?_
            show SS p e below m s₁ 11 #[iv p1, iv (4 : Int32), iv ((((((((p1.toUInt32 >>> ((7 : Int32) &&& 31).toUInt32).toInt32).toUInt32 >>> ((7 : Int32) &&& 31).toUInt32).toInt32).toUInt32 >>> ((7 : Int32) &&& 31).toUInt32).toInt32).toUInt32 >>> ((7 : Int32) &&& 31).toUInt32).toInt32)] [] _
            refine XS.iinc X0.here hx rfl (hb hby d1_11) rfl (l' := #[iv p1, iv (5 : Int32), iv ((((((((p1.toUInt32 >>> ((7 : Int32) &&& 31).toUInt32).toInt32).toUInt32 >>> ((7 : Int32) &&& 31).toUInt32).toInt32).toUInt32 >>> ((7 : Int32) &&& 31).toUInt32).toInt32).toUInt32 >>> ((7 : Int32) &&& 31).toUInt32).toInt32)]) rfl ?_
            show SS p e below m s₁ 14 #[iv p1, iv (5 : Int32), iv ((((((((p1.toUInt32 >>> ((7 : Int32) &&& 31).toUInt32).toInt32).toUInt32 >>> ((7 : Int32) &&& 31).toUInt32).toInt32).toUInt32 >>> ((7 : Int32) &&& 31).toUInt32).toInt32).toUInt32 >>> ((7 : Int32) &&& 31).toUInt32).toInt32)] [] _
            refine XS.iloadN X0.here hx rfl (hb hby d1_14) rfl ?_
            show SS p e below m s₁ 15 #[iv p1, iv (5 : Int32), iv ((((((((p1.toUInt32 >>> ((7 : Int32) &&& 31).toUInt32).toInt32).toUInt32 >>> ((7 : Int32) &&& 31).toUInt32).toInt32).toUInt32 >>> ((7 : Int32) &&& 31).toUInt32).toInt32).toUInt32 >>> ((7 : Int32) &&& 31).toUInt32).toInt32)] [(.int ((((((((p1.toUInt32 >>> ((7 : Int32) &&& 31).toUInt32).toInt32).toUInt32 >>> ((7 : Int32) &&& 31).toUInt32).toInt32).toUInt32 >>> ((7 : Int32) &&& 31).toUInt32).toInt32).toUInt32 >>> ((7 : Int32) &&& 31).toUInt32).toInt32))] _
            refine XS.bipush X0.here hx rfl (hb hby d1_15) ?_
            show SS p e below m s₁ 17 #[iv p1, iv (5 : Int32), iv ((((((((p1.toUInt32 >>> ((7 : Int32) &&& 31).toUInt32).toInt32).toUInt32 >>> ((7 : Int32) &&& 31).toUInt32).toInt32).toUInt32 >>> ((7 : Int32) &&& 31).toUInt32).toInt32).toUInt32 >>> ((7 : Int32) &&& 31).toUInt32).toInt32)] [(.int (7 : Int32)), (.int ((((((((p1.toUInt32 >>> ((7 : Int32) &&& 31).toUInt32).toInt32).toUInt32 >>> ((7 : Int32) &&& 31).toUInt32).toInt32).toUInt32 >>> ((7 : Int32) &&& 31).toUInt32).toInt32).toUInt32 >>> ((7 : Int32) &&& 31).toUInt32).toInt32))] _
            refine XS.iushr X0.here hx rfl (hb hby d1_17) rfl ?_
            show SS p e below m s₁ 18 #[iv p1, iv (5 : Int32), iv ((((((((p1.toUInt32 >>> ((7 : Int32) &&& 31).toUInt32).toInt32).toUInt32 >>> ((7 : Int32) &&& 31).toUInt32).toInt32).toUInt32 >>> ((7 : Int32) &&& 31).toUInt32).toInt32).toUInt32 >>> ((7 : Int32) &&& 31).toUInt32).toInt32)] [(.int ((((((((((p1.toUInt32 >>> ((7 : Int32) &&& 31).toUInt32).toInt32).toUInt32 >>> ((7 : Int32) &&& 31).toUInt32).toInt32).toUInt32 >>> ((7 : Int32) &&& 31).toUInt32).toInt32).toUInt32 >>> ((7 : Int32) &&& 31).toUInt32).toInt32).toUInt32 >>> ((7 : Int32) &&& 31).toUInt32).toInt32))] _
            refine XS.istoreN X0.here hx rfl (hb hby d1_18) rfl (l' := #[iv p1, iv (5 : Int32), iv ((((((((((p1.toUInt32 >>> ((7 : Int32) &&& 31).toUInt32).toInt32).toUInt32 >>> ((7 : Int32) &&& 31).toUInt32).toInt32).toUInt32 >>> ((7 : Int32) &&& 31).toUInt32).toInt32).toUInt32 >>> ((7 : Int32) &&& 31).toUInt32).toInt32).toUInt32 >>> ((7 : Int32) &&& 31).toUInt32).toInt32)]) rfl ?_
            show SS p e below m s₁ 19 #[iv p1, iv (5 : Int32), iv ((((((((((p1.toUInt32 >>> ((7 : Int32) &&& 31).toUInt32).toInt32).toUInt32 >>> ((7 : Int32) &&& 31).toUInt32).toInt32).toUInt32 >>> ((7 : Int32) &&& 31).toUInt32).toInt32).toUInt32 >>> ((7 : Int32) &&& 31).toUInt32).toInt32).toUInt32 >>> ((7 : Int32) &&& 31).toUInt32).toInt32)] [] _
            refine XS.goto X0.here hx rfl (pc0 := 19) (pc' := 7) rfl (hb hby d1_19) (by decide) (by decide) ?_
            show SS p e below m s₁ 7 #[iv p1, iv (5 : Int32), iv ((((((((((p1.toUInt32 >>> ((7 : Int32) &&& 31).toUInt32).toInt32).toUInt32 >>> ((7 : Int32) &&& 31).toUInt32).toInt32).toUInt32 >>> ((7 : Int32) &&& 31).toUInt32).toInt32).toUInt32 >>> ((7 : Int32) &&& 31).toUInt32).toInt32).toUInt32 >>> ((7 : Int32) &&& 31).toUInt32).toInt32)] [] _
            refine XS.iloadN X0.here hx rfl (hb hby d1_7) rfl ?_
            show SS p e below m s₁ 8 #[iv p1, iv (5 : Int32), iv ((((((((((p1.toUInt32 >>> ((7 : Int32) &&& 31).toUInt32).toInt32).toUInt32 >>> ((7 : Int32) &&& 31).toUInt32).toInt32).toUInt32 >>> ((7 : Int32) &&& 31).toUInt32).toInt32).toUInt32 >>> ((7 : Int32) &&& 31).toUInt32).toInt32).toUInt32 >>> ((7 : Int32) &&& 31).toUInt32).toInt32)] [(.int ((((((((((p1.toUInt32 >>> ((7 : Int32) &&& 31).toUInt32).toInt32).toUInt32 >>> ((7 : Int32) &&& 31).toUInt32).toInt32).toUInt32 >>> ((7 : Int32) &&& 31).toUInt32).toInt32).toUInt32 >>> ((7 : Int32) &&& 31).toUInt32).toInt32).toUInt32 >>> ((7 : Int32) &&& 31).toUInt32).toInt32))] _
            refine XS.ifYes X0.here hx rfl (pc0 := 8) (pc' := 22) rfl (hb hby d1_8) rfl ((if0 _ _).trans (teq (own_l1_0 p1  hc2 hc5 hc8 hc11)).1) (by decide) (by decide) ?_
            show SS p e below m s₁ 22 #[iv p1, iv (5 : Int32), iv ((((((((((p1.toUInt32 >>> ((7 : Int32) &&& 31).toUInt32).toInt32).toUInt32 >>> ((7 : Int32) &&& 31).toUInt32).toInt32).toUInt32 >>> ((7 : Int32) &&& 31).toUInt32).toInt32).toUInt32 >>> ((7 : Int32) &&& 31).toUInt32).toInt32).toUInt32 >>> ((7 : Int32) &&& 31).toUInt32).toInt32)] [] _
            refine XS.iloadN X0.here hx rfl (hb hby d1_22) rfl ?_
            show SS p e below m s₁ 23 #[iv p1, iv (5 : Int32), iv ((((((((((p1.toUInt32 >>> ((7 : Int32) &&& 31).toUInt32).toInt32).toUInt32 >>> ((7 : Int32) &&& 31).toUInt32).toInt32).toUInt32 >>> ((7 : Int32) &&& 31).toUInt32).toInt32).toUInt32 >>> ((7 : Int32) &&& 31).toUInt32).toInt32).toUInt32 >>> ((7 : Int32) &&& 31).toUInt32).toInt32)] [(.int (5 : Int32))] _
            exact kk)
          obtain ⟨fs, hr, hrun, hended, hW, hsame⟩ := X0.leave (v := some (.int (5 : Int32))) (fun h => by rw [Bd.returns] at h; cases h)
          refine ⟨_, _, hB _ (pre13 _ ?_), hrun, hended, _, _, rfl, ?_, ⟨_, rfl⟩, hW, hsame.mono (by decide) (by decide)⟩
          · exact retI X0 hx Bd.returns (hb hby d1_23) hr
          · exact ⟨by show _ = some (Value.int (f1 p1)); rw [f1, if_neg hc2, if_neg hc5, if_neg hc8, if_neg hc11], N0, e0⟩
theorem d2_0 : decode method_2_code 0 = .ok (.iload_n 0, 1) := by decide +kernel
theorem d2_1 : decode method_2_code 1 = .ok (.i2l, 1) := by decide +kernel
theorem d2_2 : decode method_2_code 2 = .ok (.ldc2_w 7, 3) := by decide +kernel
theorem d2_5 : decode method_2_code 5 = .ok (.land, 1) := by decide +kernel
theorem d2_6 : decode method_2_code 6 = .ok (.lstore_n 1, 1) := by decide +kernel
theorem d2_7 : decode method_2_code 7 = .ok (.lload_n 1, 1) := by decide +kernel
theorem d2_8 : decode method_2_code 8 = .ok (.ldc2_w 9, 3) := by decide +kernel
theorem d2_11 : decode method_2_code 11 = .ok (.lcmp, 1) := by decide +kernel
theorem d2_12 : decode method_2_code 12 = .ok (.ifCond .ge 5, 3) := by decide +kernel
theorem d2_15 : decode method_2_code 15 = .ok (.iconst 1, 1) := by decide +kernel
theorem d2_16 : decode method_2_code 16 = .ok (.ireturn, 1) := by decide +kernel
theorem d2_17 : decode method_2_code 17 = .ok (.lload_n 1, 1) := by decide +kernel
theorem d2_18 : decode method_2_code 18 = .ok (.ldc2_w 11, 3) := by decide +kernel
theorem d2_21 : decode method_2_code 21 = .ok (.lcmp, 1) := by decide +kernel
theorem d2_22 : decode method_2_code 22 = .ok (.ifCond .ge 5, 3) := by decide +kernel
theorem d2_25 : decode method_2_code 25 = .ok (.iconst 2, 1) := by decide +kernel
theorem d2_26 : decode method_2_code 26 = .ok (.ireturn, 1) := by decide +kernel
theorem d2_27 : decode method_2_code 27 = .ok (.lload_n 1, 1) := by decide +kernel
theorem d2_28 : decode method_2_code 28 = .ok (.ldc2_w 13, 3) := by decide +kernel
theorem d2_31 : decode method_2_code 31 = .ok (.lcmp, 1) := by decide +kernel
theorem d2_32 : decode method_2_code 32 = .ok (.ifCond .ge 5, 3) := by decide +kernel
theorem d2_35 : decode method_2_code 35 = .ok (.iconst 3, 1) := by decide +kernel
theorem d2_36 : decode method_2_code 36 = .ok (.ireturn, 1) := by decide +kernel
theorem d2_37 : decode method_2_code 37 = .ok (.lload_n 1, 1) := by decide +kernel
theorem d2_38 : decode method_2_code 38 = .ok (.ldc2_w 15, 3) := by decide +kernel
theorem d2_41 : decode method_2_code 41 = .ok (.lcmp, 1) := by decide +kernel
theorem d2_42 : decode method_2_code 42 = .ok (.ifCond .ge 5, 3) := by decide +kernel
theorem d2_45 : decode method_2_code 45 = .ok (.iconst 4, 1) := by decide +kernel
theorem d2_46 : decode method_2_code 46 = .ok (.ireturn, 1) := by decide +kernel
theorem d2_47 : decode method_2_code 47 = .ok (.iconst 5, 1) := by decide +kernel
theorem d2_48 : decode method_2_code 48 = .ok (.ireturn, 1) := by decide +kernel
theorem pn_2 : plainName "com/example/reston/reston/store/ByteBuilderVarintLengthPinLaw" = true := by first | (simp [plainName, overriddenIn]; done) | decide +kernel
theorem ef_2 (m : MethodId) (p1 : Int32) : entryFrame m #[(.int p1)] 3 = mkF m 0 #[iv p1, .unset, .unset] [] := by first | (simp [entryFrame, mkF, argsToLocals, Value.category]; done) | rfl
def f2 (p1 : Int32)  : Int32 := (if (lcmpW ((p1.toInt64) &&& (4294967295 : Int64)) (128 : Int64)) < (0 : Int32) then (1 : Int32) else (if (lcmpW ((p1.toInt64) &&& (4294967295 : Int64)) (16384 : Int64)) < (0 : Int32) then (2 : Int32) else (if (lcmpW ((p1.toInt64) &&& (4294967295 : Int64)) (2097152 : Int64)) < (0 : Int32) then (3 : Int32) else (if (lcmpW ((p1.toInt64) &&& (4294967295 : Int64)) (268435456 : Int64)) < (0 : Int32) then (4 : Int32) else (5 : Int32)))))
set_option maxRecDepth 65536 in
set_option maxHeartbeats 40000000 in
theorem rm2 (l : Launch) (Z : State) (a0 : Array Value) (hw : ∀ d ∈ tables_1, d.before a0 Z = true) (ws : List Jvm.Cond) (p1 : Int32)  (h0 : Heap) (n0 : Nat) (Z0 : n0 ≤ h0.size)  :
    MetFree l (⟨"com/example/reston/reston/store/ByteBuilderVarintLengthPinLaw", "expected", "(I)I"⟩ : MethodName) (head1 (Jvm.Cond.code (⟨"com/example/reston/reston/store/ByteBuilderVarintLengthPinLaw", "expected", "(I)I"⟩ : MethodName) method_2_code 3 (some .int) :: ws) ({ frames := 0, cells := 0, slots := 0, locals := 0 } : Room)) (fun a U => a = #[(.int p1)] ∧ Z.Warmed39 U.vm ∧ U.heap = h0) (fun _ _ _ _ _ => True) (fun _ U o U' => ∃ v L, o = .returned v ∧ QI (f2 p1) h0 n0 v U'.heap L ∧ FrameEnd U o U' L ({ frames := 0, cells := 0, slots := 0, locals := 0 } : Room).cells ({ frames := 0, cells := 0, slots := 0, locals := 0 } : Room).slots) := by
  refine MetFree.of_bodySF (plainFor_of_name pn_2) hisR ?_
  intro p e s m args below meth c s₁ Bd hml0 hP hK
  obtain ⟨rfl, hZ, hh⟩ := hP
  have hx := Bd.exec
  have hby := Bd.bytes
  have hml : c.maxLocals = 3 := hml0
  have hown : s.vm.findClass "com/example/reston/reston/store/ByteBuilderVarintLengthPinLaw" = some m.cls := findClass_of_methodNamed Bd.named
  have hnm := (name_of_methodNamed Bd.named Bd.method).1
  have X0 : Stand p l e ({ frames := 0, cells := 0, slots := 0, locals := 0 } : Room) s m #[(.int p1)] below meth c s₁ [] 0 0 := Stand.of_body Bd
  have e0 : s₁.heap = h0 := by rw [← hh, Bd.state]; rfl
  have N0 := Fr.nil n0
  obtain ⟨B, hB, pre0⟩ : ∃ B : State → Prop, (∀ t, B t → Steps p.tables e below (s₁.setTop (entryFrame m #[(.int p1)] 3)) t) ∧ ∀ t, SS p e below m s₁ 0 #[iv p1, .unset, .unset] [] t → B t := ⟨_, fun _ q => q, fun t kk => castTop (ef_2 m p1) kk⟩
  have pre1 : ∀ t, SS p e below m s₁ 12 #[iv p1, .val (.long ((p1.toInt64) &&& (4294967295 : Int64))), .second] [(.int (lcmpW ((p1.toInt64) &&& (4294967295 : Int64)) (128 : Int64)))] t → B t := fun t kk => pre0 t (by
    show SS p e below m s₁ 0 #[iv p1, .unset, .unset] [] _
    refine XS.iloadN X0.here hx rfl (hb hby d2_0) rfl ?_
    show SS p e below m s₁ 1 #[iv p1, .unset, .unset] [(.int p1)] _
    refine XS.i2l X0.here hx rfl (hb hby d2_1) rfl ?_
    show SS p e below m s₁ 2 #[iv p1, .unset, .unset] [(.long (p1.toInt64))] _
    refine X0.ldc2Long hx hown (mvT hZ (hw _ (List.mem_of_getElem? (i := 8) rfl))) (g := (mkF m 2 #[iv p1, .unset, .unset] [(.long (p1.toInt64))])) rfl (hb hby d2_2) _ ?_
    show SS p e below m s₁ 5 #[iv p1, .unset, .unset] [(.long (4294967295 : Int64)), (.long (p1.toInt64))] _
    refine XS.land X0.here hx rfl (hb hby d2_5) rfl ?_
    show SS p e below m s₁ 6 #[iv p1, .unset, .unset] [(.long ((p1.toInt64) &&& (4294967295 : Int64)))] _
    refine XS.lstoreN X0.here hx rfl (hb hby d2_6) rfl (l' := #[iv p1, .val (.long ((p1.toInt64) &&& (4294967295 : Int64))), .second]) rfl ?_
    show SS p e below m s₁ 7 #[iv p1, .val (.long ((p1.toInt64) &&& (4294967295 : Int64))), .second] [] _
    refine XS.lloadN X0.here hx rfl (hb hby d2_7) rfl ?_
    show SS p e below m s₁ 8 #[iv p1, .val (.long ((p1.toInt64) &&& (4294967295 : Int64))), .second] [(.long ((p1.toInt64) &&& (4294967295 : Int64)))] _
    refine X0.ldc2Long hx hown (mvT hZ (hw _ (List.mem_of_getElem? (i := 9) rfl))) (g := (mkF m 8 #[iv p1, .val (.long ((p1.toInt64) &&& (4294967295 : Int64))), .second] [(.long ((p1.toInt64) &&& (4294967295 : Int64)))])) rfl (hb hby d2_8) _ ?_
    show SS p e below m s₁ 11 #[iv p1, .val (.long ((p1.toInt64) &&& (4294967295 : Int64))), .second] [(.long (128 : Int64)), (.long ((p1.toInt64) &&& (4294967295 : Int64)))] _
    refine XS.lcmp X0.here hx rfl (hb hby d2_11) rfl ?_
    show SS p e below m s₁ 12 #[iv p1, .val (.long ((p1.toInt64) &&& (4294967295 : Int64))), .second] [(.int (lcmpW ((p1.toInt64) &&& (4294967295 : Int64)) (128 : Int64)))] _
    exact kk)
  by_cases hc2 : (lcmpW ((p1.toInt64) &&& (4294967295 : Int64)) (128 : Int64)) < (0 : Int32)
  · have pre3 : ∀ t, SS p e below m s₁ 16 #[iv p1, .val (.long ((p1.toInt64) &&& (4294967295 : Int64))), .second] [(.int (1 : Int32))] t → B t := fun t kk => pre1 t (by
      refine XS.ifNo X0.here hx rfl (hb hby d2_12) rfl ((if0 _ _).trans (tlt hc2).2.1) ?_
      show SS p e below m s₁ 15 #[iv p1, .val (.long ((p1.toInt64) &&& (4294967295 : Int64))), .second] [] _
      refine XS.iconst X0.here hx rfl (hb hby d2_15) ?_
      show SS p e below m s₁ 16 #[iv p1, .val (.long ((p1.toInt64) &&& (4294967295 : Int64))), .second] [(.int (1 : Int32))] _
      exact kk)
    obtain ⟨fs, hr, hrun, hended, hW, hsame⟩ := X0.leave (v := some (.int (1 : Int32))) (fun h => by rw [Bd.returns] at h; cases h)
    refine ⟨_, _, hB _ (pre3 _ ?_), hrun, hended, _, _, rfl, ?_, ⟨_, rfl⟩, hW, hsame.mono (by decide) (by decide)⟩
    · exact retI X0 hx Bd.returns (hb hby d2_16) hr
    · exact ⟨by show _ = some (Value.int (f2 p1)); rw [f2, if_pos hc2], N0, e0⟩
  · have pre4 : ∀ t, SS p e below m s₁ 22 #[iv p1, .val (.long ((p1.toInt64) &&& (4294967295 : Int64))), .second] [(.int (lcmpW ((p1.toInt64) &&& (4294967295 : Int64)) (16384 : Int64)))] t → B t := fun t kk => pre1 t (by
      refine XS.ifYes X0.here hx rfl (pc0 := 12) (pc' := 17) rfl (hb hby d2_12) rfl ((if0 _ _).trans (flt hc2).2.1) (by decide) (by decide) ?_
      show SS p e below m s₁ 17 #[iv p1, .val (.long ((p1.toInt64) &&& (4294967295 : Int64))), .second] [] _
      refine XS.lloadN X0.here hx rfl (hb hby d2_17) rfl ?_
      show SS p e below m s₁ 18 #[iv p1, .val (.long ((p1.toInt64) &&& (4294967295 : Int64))), .second] [(.long ((p1.toInt64) &&& (4294967295 : Int64)))] _
      refine X0.ldc2Long hx hown (mvT hZ (hw _ (List.mem_of_getElem? (i := 10) rfl))) (g := (mkF m 18 #[iv p1, .val (.long ((p1.toInt64) &&& (4294967295 : Int64))), .second] [(.long ((p1.toInt64) &&& (4294967295 : Int64)))])) rfl (hb hby d2_18) _ ?_
      show SS p e below m s₁ 21 #[iv p1, .val (.long ((p1.toInt64) &&& (4294967295 : Int64))), .second] [(.long (16384 : Int64)), (.long ((p1.toInt64) &&& (4294967295 : Int64)))] _
      refine XS.lcmp X0.here hx rfl (hb hby d2_21) rfl ?_
      show SS p e below m s₁ 22 #[iv p1, .val (.long ((p1.toInt64) &&& (4294967295 : Int64))), .second] [(.int (lcmpW ((p1.toInt64) &&& (4294967295 : Int64)) (16384 : Int64)))] _
      exact kk)
    by_cases hc5 : (lcmpW ((p1.toInt64) &&& (4294967295 : Int64)) (16384 : Int64)) < (0 : Int32)
    · have pre6 : ∀ t, SS p e below m s₁ 26 #[iv p1, .val (.long ((p1.toInt64) &&& (4294967295 : Int64))), .second] [(.int (2 : Int32))] t → B t := fun t kk => pre4 t (by
        refine XS.ifNo X0.here hx rfl (hb hby d2_22) rfl ((if0 _ _).trans (tlt hc5).2.1) ?_
        show SS p e below m s₁ 25 #[iv p1, .val (.long ((p1.toInt64) &&& (4294967295 : Int64))), .second] [] _
        refine XS.iconst X0.here hx rfl (hb hby d2_25) ?_
        show SS p e below m s₁ 26 #[iv p1, .val (.long ((p1.toInt64) &&& (4294967295 : Int64))), .second] [(.int (2 : Int32))] _
        exact kk)
      obtain ⟨fs, hr, hrun, hended, hW, hsame⟩ := X0.leave (v := some (.int (2 : Int32))) (fun h => by rw [Bd.returns] at h; cases h)
      refine ⟨_, _, hB _ (pre6 _ ?_), hrun, hended, _, _, rfl, ?_, ⟨_, rfl⟩, hW, hsame.mono (by decide) (by decide)⟩
      · exact retI X0 hx Bd.returns (hb hby d2_26) hr
      · exact ⟨by show _ = some (Value.int (f2 p1)); rw [f2, if_neg hc2, if_pos hc5], N0, e0⟩
    · have pre7 : ∀ t, SS p e below m s₁ 32 #[iv p1, .val (.long ((p1.toInt64) &&& (4294967295 : Int64))), .second] [(.int (lcmpW ((p1.toInt64) &&& (4294967295 : Int64)) (2097152 : Int64)))] t → B t := fun t kk => pre4 t (by
        refine XS.ifYes X0.here hx rfl (pc0 := 22) (pc' := 27) rfl (hb hby d2_22) rfl ((if0 _ _).trans (flt hc5).2.1) (by decide) (by decide) ?_
        show SS p e below m s₁ 27 #[iv p1, .val (.long ((p1.toInt64) &&& (4294967295 : Int64))), .second] [] _
        refine XS.lloadN X0.here hx rfl (hb hby d2_27) rfl ?_
        show SS p e below m s₁ 28 #[iv p1, .val (.long ((p1.toInt64) &&& (4294967295 : Int64))), .second] [(.long ((p1.toInt64) &&& (4294967295 : Int64)))] _
        refine X0.ldc2Long hx hown (mvT hZ (hw _ (List.mem_of_getElem? (i := 11) rfl))) (g := (mkF m 28 #[iv p1, .val (.long ((p1.toInt64) &&& (4294967295 : Int64))), .second] [(.long ((p1.toInt64) &&& (4294967295 : Int64)))])) rfl (hb hby d2_28) _ ?_
        show SS p e below m s₁ 31 #[iv p1, .val (.long ((p1.toInt64) &&& (4294967295 : Int64))), .second] [(.long (2097152 : Int64)), (.long ((p1.toInt64) &&& (4294967295 : Int64)))] _
        refine XS.lcmp X0.here hx rfl (hb hby d2_31) rfl ?_
        show SS p e below m s₁ 32 #[iv p1, .val (.long ((p1.toInt64) &&& (4294967295 : Int64))), .second] [(.int (lcmpW ((p1.toInt64) &&& (4294967295 : Int64)) (2097152 : Int64)))] _
        exact kk)
      by_cases hc8 : (lcmpW ((p1.toInt64) &&& (4294967295 : Int64)) (2097152 : Int64)) < (0 : Int32)
      · have pre9 : ∀ t, SS p e below m s₁ 36 #[iv p1, .val (.long ((p1.toInt64) &&& (4294967295 : Int64))), .second] [(.int (3 : Int32))] t → B t := fun t kk => pre7 t (by
          refine XS.ifNo X0.here hx rfl (hb hby d2_32) rfl ((if0 _ _).trans (tlt hc8).2.1) ?_
          show SS p e below m s₁ 35 #[iv p1, .val (.long ((p1.toInt64) &&& (4294967295 : Int64))), .second] [] _
          refine XS.iconst X0.here hx rfl (hb hby d2_35) ?_
          show SS p e below m s₁ 36 #[iv p1, .val (.long ((p1.toInt64) &&& (4294967295 : Int64))), .second] [(.int (3 : Int32))] _
          exact kk)
        obtain ⟨fs, hr, hrun, hended, hW, hsame⟩ := X0.leave (v := some (.int (3 : Int32))) (fun h => by rw [Bd.returns] at h; cases h)
        refine ⟨_, _, hB _ (pre9 _ ?_), hrun, hended, _, _, rfl, ?_, ⟨_, rfl⟩, hW, hsame.mono (by decide) (by decide)⟩
        · exact retI X0 hx Bd.returns (hb hby d2_36) hr
        · exact ⟨by show _ = some (Value.int (f2 p1)); rw [f2, if_neg hc2, if_neg hc5, if_pos hc8], N0, e0⟩
      · have pre10 : ∀ t, SS p e below m s₁ 42 #[iv p1, .val (.long ((p1.toInt64) &&& (4294967295 : Int64))), .second] [(.int (lcmpW ((p1.toInt64) &&& (4294967295 : Int64)) (268435456 : Int64)))] t → B t := fun t kk => pre7 t (by
          refine XS.ifYes X0.here hx rfl (pc0 := 32) (pc' := 37) rfl (hb hby d2_32) rfl ((if0 _ _).trans (flt hc8).2.1) (by decide) (by decide) ?_
          show SS p e below m s₁ 37 #[iv p1, .val (.long ((p1.toInt64) &&& (4294967295 : Int64))), .second] [] _
          refine XS.lloadN X0.here hx rfl (hb hby d2_37) rfl ?_
          show SS p e below m s₁ 38 #[iv p1, .val (.long ((p1.toInt64) &&& (4294967295 : Int64))), .second] [(.long ((p1.toInt64) &&& (4294967295 : Int64)))] _
          refine X0.ldc2Long hx hown (mvT hZ (hw _ (List.mem_of_getElem? (i := 12) rfl))) (g := (mkF m 38 #[iv p1, .val (.long ((p1.toInt64) &&& (4294967295 : Int64))), .second] [(.long ((p1.toInt64) &&& (4294967295 : Int64)))])) rfl (hb hby d2_38) _ ?_
          show SS p e below m s₁ 41 #[iv p1, .val (.long ((p1.toInt64) &&& (4294967295 : Int64))), .second] [(.long (268435456 : Int64)), (.long ((p1.toInt64) &&& (4294967295 : Int64)))] _
          refine XS.lcmp X0.here hx rfl (hb hby d2_41) rfl ?_
          show SS p e below m s₁ 42 #[iv p1, .val (.long ((p1.toInt64) &&& (4294967295 : Int64))), .second] [(.int (lcmpW ((p1.toInt64) &&& (4294967295 : Int64)) (268435456 : Int64)))] _
          exact kk)
        by_cases hc11 : (lcmpW ((p1.toInt64) &&& (4294967295 : Int64)) (268435456 : Int64)) < (0 : Int32)
        · have pre12 : ∀ t, SS p e below m s₁ 46 #[iv p1, .val (.long ((p1.toInt64) &&& (4294967295 : Int64))), .second] [(.int (4 : Int32))] t → B t := fun t kk => pre10 t (by
            refine XS.ifNo X0.here hx rfl (hb hby d2_42) rfl ((if0 _ _).trans (tlt hc11).2.1) ?_
            show SS p e below m s₁ 45 #[iv p1, .val (.long ((p1.toInt64) &&& (4294967295 : Int64))), .second] [] _
            refine XS.iconst X0.here hx rfl (hb hby d2_45) ?_
            show SS p e below m s₁ 46 #[iv p1, .val (.long ((p1.toInt64) &&& (4294967295 : Int64))), .second] [(.int (4 : Int32))] _
            exact kk)
          obtain ⟨fs, hr, hrun, hended, hW, hsame⟩ := X0.leave (v := some (.int (4 : Int32))) (fun h => by rw [Bd.returns] at h; cases h)
          refine ⟨_, _, hB _ (pre12 _ ?_), hrun, hended, _, _, rfl, ?_, ⟨_, rfl⟩, hW, hsame.mono (by decide) (by decide)⟩
          · exact retI X0 hx Bd.returns (hb hby d2_46) hr
          · exact ⟨by show _ = some (Value.int (f2 p1)); rw [f2, if_neg hc2, if_neg hc5, if_neg hc8, if_pos hc11], N0, e0⟩
        · have pre13 : ∀ t, SS p e below m s₁ 48 #[iv p1, .val (.long ((p1.toInt64) &&& (4294967295 : Int64))), .second] [(.int (5 : Int32))] t → B t := fun t kk => pre10 t (by
            refine XS.ifYes X0.here hx rfl (pc0 := 42) (pc' := 47) rfl (hb hby d2_42) rfl ((if0 _ _).trans (flt hc11).2.1) (by decide) (by decide) ?_
            show SS p e below m s₁ 47 #[iv p1, .val (.long ((p1.toInt64) &&& (4294967295 : Int64))), .second] [] _
            refine XS.iconst X0.here hx rfl (hb hby d2_47) ?_
            show SS p e below m s₁ 48 #[iv p1, .val (.long ((p1.toInt64) &&& (4294967295 : Int64))), .second] [(.int (5 : Int32))] _
            exact kk)
          obtain ⟨fs, hr, hrun, hended, hW, hsame⟩ := X0.leave (v := some (.int (5 : Int32))) (fun h => by rw [Bd.returns] at h; cases h)
          refine ⟨_, _, hB _ (pre13 _ ?_), hrun, hended, _, _, rfl, ?_, ⟨_, rfl⟩, hW, hsame.mono (by decide) (by decide)⟩
          · exact retI X0 hx Bd.returns (hb hby d2_48) hr
          · exact ⟨by show _ = some (Value.int (f2 p1)); rw [f2, if_neg hc2, if_neg hc5, if_neg hc8, if_neg hc11], N0, e0⟩
theorem own_eq (x : Int32) : f1 x = f2 x := by
  have s0 := c_iushr x (7 : Int32) 7 (by decide) (by decide)
  have s1 := c_iushr ((x.toUInt32 >>> ((7 : Int32) &&& 31).toUInt32).toInt32) (7 : Int32) 7 (by decide) (by decide)
  have s2 := c_iushr ((((x.toUInt32 >>> ((7 : Int32) &&& 31).toUInt32).toInt32).toUInt32 >>> ((7 : Int32) &&& 31).toUInt32).toInt32) (7 : Int32) 7 (by decide) (by decide)
  have s3 := c_iushr ((((((x.toUInt32 >>> ((7 : Int32) &&& 31).toUInt32).toInt32).toUInt32 >>> ((7 : Int32) &&& 31).toUInt32).toInt32).toUInt32 >>> ((7 : Int32) &&& 31).toUInt32).toInt32) (7 : Int32) 7 (by decide) (by decide)
  have e128 : ((2 ^ 7 : Nat) : Int) = 128 := by decide
  rw [e128] at s0 s1 s2 s3
  have r := rng32 x
  have u : (x.toInt64 &&& (4294967295 : Int64)).toInt = x.toInt % 4294967296 := by
    rw [← c_i2l x]; exact c_maskL x.toInt64 4294967295 32 (by decide) (by decide)
  unfold f1 f2
  have L0 : (0 : Int32).toInt = 0 := by decide
  have L1 : (1 : Int32).toInt = 1 := by decide
  have L2 : (2 : Int32).toInt = 2 := by decide
  have L3 : (3 : Int32).toInt = 3 := by decide
  have L4 : (4 : Int32).toInt = 4 := by decide
  have L5 : (5 : Int32).toInt = 5 := by decide
  have J128 : (128 : Int64).toInt = 128 := by decide
  have J16384 : (16384 : Int64).toInt = 16384 := by decide
  have J2097152 : (2097152 : Int64).toInt = 2097152 := by decide
  have J268435456 : (268435456 : Int64).toInt = 268435456 := by decide
  simp only [lw_lt]
  simp only [Int64.lt_iff_toInt_lt, ← Int32.toInt_inj]
  repeat' split
  all_goals first | rfl | (exfalso; omega)
theorem pn_0 : plainName "com/example/reston/reston/store/ByteBuilderVarintLengthPinLaw" = true := by first | (simp [plainName, overriddenIn]; done) | decide +kernel
theorem pd_0 : parseMethodDescriptor "(I)I" = some ⟨[.int], some .int⟩ := by decide +kernel
theorem ef_0 (m : MethodId) (p1 : Int32) (p2 : Int32) : entryFrame m #[(.int p1), (.int p2)] maxLocals = mkF m 0 #[iv p1, iv p2, .unset, .unset] [] := by first | (simp [entryFrame, mkF, argsToLocals, Value.category, maxLocals]; done) | rfl
set_option maxRecDepth 65536 in
set_option maxHeartbeats 40000000 in
theorem rm0 (l : Launch) (Z : State) (a0 : Array Value) (hw : ∀ d ∈ tables_1, d.before a0 Z = true) (ws : List Jvm.Cond) (p1 : Int32) (p2 : Int32)  (h0 : Heap) (n0 : Nat) (Z0 : n0 ≤ h0.size)  :
    MetFree l x (head1 (Jvm.Cond.code x code maxLocals ret :: ws) room_1) (fun a U => a = #[(.int p1), (.int p2)] ∧ Z.Warmed39 U.vm ∧ U.heap = h0) (fun _ _ _ _ _ => True) (fun _ U o U' => ∃ v L, o = .returned v ∧ QE n0 v U'.heap L ∧ FrameEnd U o U' L room_1.cells room_1.slots) := by
  refine MetFree.of_bodySF (plainFor_of_name pn_0) hisR ?_
  intro p e s m args below meth c s₁ Bd hml0 hP hK
  obtain ⟨rfl, hZ, hh⟩ := hP
  have hx := Bd.exec
  have hby := Bd.bytes
  have hml : c.maxLocals = 4 := hml0
  have hown : s.vm.findClass "com/example/reston/reston/store/ByteBuilderVarintLengthPinLaw" = some m.cls := findClass_of_methodNamed Bd.named
  have hnm := (name_of_methodNamed Bd.named Bd.method).1
  have X0 : Stand p l e room_1 s m #[(.int p1), (.int p2)] below meth c s₁ [] 0 0 := Stand.of_body Bd
  have e0 : s₁.heap = h0 := by rw [← hh, Bd.state]; rfl
  have N0 := Fr.nil n0
  obtain ⟨B, hB, pre0⟩ : ∃ B : State → Prop, (∀ t, B t → Steps p.tables e below (s₁.setTop (entryFrame m #[(.int p1), (.int p2)] maxLocals)) t) ∧ ∀ t, SS p e below m s₁ 0 #[iv p1, iv p2, .unset, .unset] [] t → B t := ⟨_, fun _ q => q, fun t kk => castTop (ef_0 m p1 p2) kk⟩
  have pre1 : ∀ t, SS p e below m s₁ 3 #[iv p1, iv p2, .unset, .unset] [(.int (p2 &&& (1 : Int32)))] t → B t := fun t kk => pre0 t (by
    show SS p e below m s₁ 0 #[iv p1, iv p2, .unset, .unset] [] _
    refine XS.iloadN X0.here hx rfl (hb hby at_0) rfl ?_
    show SS p e below m s₁ 1 #[iv p1, iv p2, .unset, .unset] [(.int p2)] _
    refine XS.iconst X0.here hx rfl (hb hby at_1) ?_
    show SS p e below m s₁ 2 #[iv p1, iv p2, .unset, .unset] [(.int (1 : Int32)), (.int p2)] _
    refine XS.iand X0.here hx rfl (hb hby at_2) rfl ?_
    show SS p e below m s₁ 3 #[iv p1, iv p2, .unset, .unset] [(.int (p2 &&& (1 : Int32)))] _
    exact kk)
  by_cases hc2 : (p2 &&& (1 : Int32)) = (0 : Int32)
  · have pre3 : ∀ t, SS p e below m s₁ 30 #[iv p1, iv p2, iv (0 : Int32), iv ((p1.toUInt32 >>> ((((p2.toUInt32 >>> ((1 : Int32) &&& 31).toUInt32).toInt32) &&& (31 : Int32)) &&& 31).toUInt32).toInt32)] [(.int ((p1.toUInt32 >>> ((((p2.toUInt32 >>> ((1 : Int32) &&& 31).toUInt32).toInt32) &&& (31 : Int32)) &&& 31).toUInt32).toInt32))] t → B t := fun t kk => pre1 t (by
      refine XS.ifYes X0.here hx rfl (pc0 := 3) (pc' := 10) rfl (hb hby at_3) rfl ((if0 _ _).trans (teq hc2).1) (by decide) (by decide) ?_
      show SS p e below m s₁ 10 #[iv p1, iv p2, .unset, .unset] [] _
      refine XS.iconst X0.here hx rfl (hb hby at_10) ?_
      show SS p e below m s₁ 11 #[iv p1, iv p2, .unset, .unset] [(.int (0 : Int32))] _
      refine XS.istoreN X0.here hx rfl (hb hby at_11) rfl (l' := #[iv p1, iv p2, iv (0 : Int32), .unset]) rfl ?_
      show SS p e below m s₁ 12 #[iv p1, iv p2, iv (0 : Int32), .unset] [] _
      refine XS.iloadN X0.here hx rfl (hb hby at_12) rfl ?_
      show SS p e below m s₁ 13 #[iv p1, iv p2, iv (0 : Int32), .unset] [(.int (0 : Int32))] _
      refine XS.ifYes X0.here hx rfl (pc0 := 13) (pc' := 20) rfl (hb hby at_13) rfl ((if0 _ _).trans (teq (by decide : ((0 : Int32) = (0 : Int32)))).1) (by decide) (by decide) ?_
      show SS p e below m s₁ 20 #[iv p1, iv p2, iv (0 : Int32), .unset] [] _
      refine XS.iloadN X0.here hx rfl (hb hby at_20) rfl ?_
      show SS p e below m s₁ 21 #[iv p1, iv p2, iv (0 : Int32), .unset] [(.int p1)] _
      refine XS.iloadN X0.here hx rfl (hb hby at_21) rfl ?_
      show SS p e below m s₁ 22 #[iv p1, iv p2, iv (0 : Int32), .unset] [(.int p2), (.int p1)] _
      refine XS.iconst X0.here hx rfl (hb hby at_22) ?_
      show SS p e below m s₁ 23 #[iv p1, iv p2, iv (0 : Int32), .unset] [(.int (1 : Int32)), (.int p2), (.int p1)] _
      refine XS.iushr X0.here hx rfl (hb hby at_23) rfl ?_
      show SS p e below m s₁ 24 #[iv p1, iv p2, iv (0 : Int32), .unset] [(.int ((p2.toUInt32 >>> ((1 : Int32) &&& 31).toUInt32).toInt32)), (.int p1)] _
      refine XS.bipush X0.here hx rfl (hb hby at_24) ?_
      show SS p e below m s₁ 26 #[iv p1, iv p2, iv (0 : Int32), .unset] [(.int (31 : Int32)), (.int ((p2.toUInt32 >>> ((1 : Int32) &&& 31).toUInt32).toInt32)), (.int p1)] _
      refine XS.iand X0.here hx rfl (hb hby at_26) rfl ?_
      show SS p e below m s₁ 27 #[iv p1, iv p2, iv (0 : Int32), .unset] [(.int (((p2.toUInt32 >>> ((1 : Int32) &&& 31).toUInt32).toInt32) &&& (31 : Int32))), (.int p1)] _
      refine XS.iushr X0.here hx rfl (hb hby at_27) rfl ?_
      show SS p e below m s₁ 28 #[iv p1, iv p2, iv (0 : Int32), .unset] [(.int ((p1.toUInt32 >>> ((((p2.toUInt32 >>> ((1 : Int32) &&& 31).toUInt32).toInt32) &&& (31 : Int32)) &&& 31).toUInt32).toInt32))] _
      refine XS.istoreN X0.here hx rfl (hb hby at_28) rfl (l' := #[iv p1, iv p2, iv (0 : Int32), iv ((p1.toUInt32 >>> ((((p2.toUInt32 >>> ((1 : Int32) &&& 31).toUInt32).toInt32) &&& (31 : Int32)) &&& 31).toUInt32).toInt32)]) rfl ?_
      show SS p e below m s₁ 29 #[iv p1, iv p2, iv (0 : Int32), iv ((p1.toUInt32 >>> ((((p2.toUInt32 >>> ((1 : Int32) &&& 31).toUInt32).toInt32) &&& (31 : Int32)) &&& 31).toUInt32).toInt32)] [] _
      refine XS.iloadN X0.here hx rfl (hb hby at_29) rfl ?_
      show SS p e below m s₁ 30 #[iv p1, iv p2, iv (0 : Int32), iv ((p1.toUInt32 >>> ((((p2.toUInt32 >>> ((1 : Int32) &&& 31).toUInt32).toInt32) &&& (31 : Int32)) &&& 31).toUInt32).toInt32)] [(.int ((p1.toUInt32 >>> ((((p2.toUInt32 >>> ((1 : Int32) &&& 31).toUInt32).toInt32) &&& (31 : Int32)) &&& 31).toUInt32).toInt32))] _
      exact kk)
    obtain ⟨_, _, ⟨T4, L4, k4, n4⟩, -, X4, ⟨Lc4, hQ4, l4, y4, z4⟩, st4⟩ := Jvm.LawKit.callS X0 hx (y := (⟨"com/example/reston/reston/store/ByteBuilder", "varintLength", "(I)I"⟩ : MethodName)) hown (mvT hZ (hw _ (List.mem_of_getElem? (i := 0) rfl))) (mvT hZ (hw _ (List.mem_of_getElem? (i := 1) rfl))) (mvT hZ (hw _ (List.mem_of_getElem? (i := 2) rfl))) (mvT hZ (hw _ (List.mem_of_getElem? (i := 3) rfl))) (by decide) (backOf (W := 0) (rm1 l Z a0 hw [] ((p1.toUInt32 >>> ((((p2.toUInt32 >>> ((1 : Int32) &&& 31).toUInt32).toInt32) &&& (31 : Int32)) &&& 31).toUInt32).toInt32) h0 n0 Z0 ) hZ (hw _ (List.mem_of_getElem? (i := 3) rfl)) (hw _ (List.mem_of_getElem? (i := 2) rfl)) (by decide) (by decide)) (g := (mkF m 30 #[iv p1, iv p2, iv (0 : Int32), iv ((p1.toUInt32 >>> ((((p2.toUInt32 >>> ((1 : Int32) &&& 31).toUInt32).toInt32) &&& (31 : Int32)) &&& 31).toUInt32).toInt32)] [(.int ((p1.toUInt32 >>> ((((p2.toUInt32 >>> ((1 : Int32) &&& 31).toUInt32).toInt32) &&& (31 : Int32)) &&& 31).toUInt32).toInt32))])) rfl (by rw [hml]; rfl) (argsL := [(.int ((p1.toUInt32 >>> ((((p2.toUInt32 >>> ((1 : Int32) &&& 31).toUInt32).toInt32) &&& (31 : Int32)) &&& 31).toUInt32).toInt32))]) (rest := []) (lenOf pd_0 rfl) rfl (by show 2 * 0 + _ ≤ _; exact Nat.le_of_eq rfl) (hb hby at_30) (fun _ _ => ⟨rfl, e0, (by decide : 0 + 0 ≤ _), (by decide : 0 + 0 ≤ _)⟩)
    dsimp only [Pt.U, Pt.locs, Pt.cells, Pt.slots] at X4 l4 y4 z4 st4 hQ4
    subst l4 y4 z4
    obtain ⟨rfl, N4q, e4⟩ := hQ4
    have N4 := Fr.app N0 N4q
    have pre5 : ∀ t, SS p e below m T4 34 #[iv p1, iv p2, iv (0 : Int32), iv ((p1.toUInt32 >>> ((((p2.toUInt32 >>> ((1 : Int32) &&& 31).toUInt32).toInt32) &&& (31 : Int32)) &&& 31).toUInt32).toInt32)] [(.int ((p1.toUInt32 >>> ((((p2.toUInt32 >>> ((1 : Int32) &&& 31).toUInt32).toInt32) &&& (31 : Int32)) &&& 31).toUInt32).toInt32)), (.int (f1 ((p1.toUInt32 >>> ((((p2.toUInt32 >>> ((1 : Int32) &&& 31).toUInt32).toInt32) &&& (31 : Int32)) &&& 31).toUInt32).toInt32)))] t → B t := fun t kk => pre3 t (by
      refine st4 _ ?_
      show SS p e below m T4 33 #[iv p1, iv p2, iv (0 : Int32), iv ((p1.toUInt32 >>> ((((p2.toUInt32 >>> ((1 : Int32) &&& 31).toUInt32).toInt32) &&& (31 : Int32)) &&& 31).toUInt32).toInt32)] [(.int (f1 ((p1.toUInt32 >>> ((((p2.toUInt32 >>> ((1 : Int32) &&& 31).toUInt32).toInt32) &&& (31 : Int32)) &&& 31).toUInt32).toInt32)))] _
      refine XS.iloadN X4.here hx rfl (hb hby at_33) rfl ?_
      show SS p e below m T4 34 #[iv p1, iv p2, iv (0 : Int32), iv ((p1.toUInt32 >>> ((((p2.toUInt32 >>> ((1 : Int32) &&& 31).toUInt32).toInt32) &&& (31 : Int32)) &&& 31).toUInt32).toInt32)] [(.int ((p1.toUInt32 >>> ((((p2.toUInt32 >>> ((1 : Int32) &&& 31).toUInt32).toInt32) &&& (31 : Int32)) &&& 31).toUInt32).toInt32)), (.int (f1 ((p1.toUInt32 >>> ((((p2.toUInt32 >>> ((1 : Int32) &&& 31).toUInt32).toInt32) &&& (31 : Int32)) &&& 31).toUInt32).toInt32)))] _
      exact kk)
    obtain ⟨_, _, ⟨T6, L6, k6, n6⟩, -, X6, ⟨Lc6, hQ6, l6, y6, z6⟩, st6⟩ := Jvm.LawKit.callS X4 hx (y := (⟨"com/example/reston/reston/store/ByteBuilderVarintLengthPinLaw", "expected", "(I)I"⟩ : MethodName)) hown (mvT hZ (hw _ (List.mem_of_getElem? (i := 4) rfl))) (mvT hZ (hw _ (List.mem_of_getElem? (i := 5) rfl))) (mvT hZ (hw _ (List.mem_of_getElem? (i := 6) rfl))) (mvT hZ (hw _ (List.mem_of_getElem? (i := 7) rfl))) (by decide) (backOf (W := 1) (rm2 l Z a0 hw [] ((p1.toUInt32 >>> ((((p2.toUInt32 >>> ((1 : Int32) &&& 31).toUInt32).toInt32) &&& (31 : Int32)) &&& 31).toUInt32).toInt32) h0 n0 Z0 ) hZ (hw _ (List.mem_of_getElem? (i := 7) rfl)) (hw _ (List.mem_of_getElem? (i := 6) rfl)) (by decide) (by decide)) (g := (mkF m 34 #[iv p1, iv p2, iv (0 : Int32), iv ((p1.toUInt32 >>> ((((p2.toUInt32 >>> ((1 : Int32) &&& 31).toUInt32).toInt32) &&& (31 : Int32)) &&& 31).toUInt32).toInt32)] [(.int ((p1.toUInt32 >>> ((((p2.toUInt32 >>> ((1 : Int32) &&& 31).toUInt32).toInt32) &&& (31 : Int32)) &&& 31).toUInt32).toInt32)), (.int (f1 ((p1.toUInt32 >>> ((((p2.toUInt32 >>> ((1 : Int32) &&& 31).toUInt32).toInt32) &&& (31 : Int32)) &&& 31).toUInt32).toInt32)))])) rfl (by rw [hml]; rfl) (argsL := [(.int ((p1.toUInt32 >>> ((((p2.toUInt32 >>> ((1 : Int32) &&& 31).toUInt32).toInt32) &&& (31 : Int32)) &&& 31).toUInt32).toInt32))]) (rest := [(.int (f1 ((p1.toUInt32 >>> ((((p2.toUInt32 >>> ((1 : Int32) &&& 31).toUInt32).toInt32) &&& (31 : Int32)) &&& 31).toUInt32).toInt32)))]) (lenOf pd_0 rfl) rfl (by show 2 * 0 + _ ≤ _; exact Nat.le_of_eq rfl) (hb hby at_34) (fun _ _ => ⟨rfl, e4, (by decide : 0 + 0 ≤ _), (by decide : 0 + 0 ≤ _)⟩)
    dsimp only [Pt.U, Pt.locs, Pt.cells, Pt.slots] at X6 l6 y6 z6 st6 hQ6
    subst l6 y6 z6
    obtain ⟨rfl, N6q, e6⟩ := hQ6
    have N6 := Fr.app N4 N6q
    have pre7 : ∀ t, SS p e below m T6 45 #[iv p1, iv p2, iv (0 : Int32), iv ((p1.toUInt32 >>> ((((p2.toUInt32 >>> ((1 : Int32) &&& 31).toUInt32).toInt32) &&& (31 : Int32)) &&& 31).toUInt32).toInt32)] [(.int (1 : Int32))] t → B t := fun t kk => pre5 t (by
      refine st6 _ ?_
      show SS p e below m T6 37 #[iv p1, iv p2, iv (0 : Int32), iv ((p1.toUInt32 >>> ((((p2.toUInt32 >>> ((1 : Int32) &&& 31).toUInt32).toInt32) &&& (31 : Int32)) &&& 31).toUInt32).toInt32)] [(.int (f2 ((p1.toUInt32 >>> ((((p2.toUInt32 >>> ((1 : Int32) &&& 31).toUInt32).toInt32) &&& (31 : Int32)) &&& 31).toUInt32).toInt32))), (.int (f1 ((p1.toUInt32 >>> ((((p2.toUInt32 >>> ((1 : Int32) &&& 31).toUInt32).toInt32) &&& (31 : Int32)) &&& 31).toUInt32).toInt32)))] _
      refine XS.icmpNo X6.here hx rfl (hb hby at_37) rfl (teq (own_eq ((p1.toUInt32 >>> ((((p2.toUInt32 >>> ((1 : Int32) &&& 31).toUInt32).toInt32) &&& (31 : Int32)) &&& 31).toUInt32).toInt32))).2 ?_
      show SS p e below m T6 40 #[iv p1, iv p2, iv (0 : Int32), iv ((p1.toUInt32 >>> ((((p2.toUInt32 >>> ((1 : Int32) &&& 31).toUInt32).toInt32) &&& (31 : Int32)) &&& 31).toUInt32).toInt32)] [] _
      refine XS.iconst X6.here hx rfl (hb hby at_40) ?_
      show SS p e below m T6 41 #[iv p1, iv p2, iv (0 : Int32), iv ((p1.toUInt32 >>> ((((p2.toUInt32 >>> ((1 : Int32) &&& 31).toUInt32).toInt32) &&& (31 : Int32)) &&& 31).toUInt32).toInt32)] [(.int (1 : Int32))] _
      refine XS.goto X6.here hx rfl (pc0 := 41) (pc' := 45) rfl (hb hby at_41) (by decide) (by decide) ?_
      show SS p e below m T6 45 #[iv p1, iv p2, iv (0 : Int32), iv ((p1.toUInt32 >>> ((((p2.toUInt32 >>> ((1 : Int32) &&& 31).toUInt32).toInt32) &&& (31 : Int32)) &&& 31).toUInt32).toInt32)] [(.int (1 : Int32))] _
      exact kk)
    obtain ⟨fs, hr, hrun, hended, hW, hsame⟩ := X6.leave (v := some (.int (1 : Int32))) (fun h => by rw [Bd.returns] at h; cases h)
    refine ⟨_, _, hB _ (pre7 _ ?_), hrun, hended, _, _, rfl, ?_, ⟨_, rfl⟩, hW, hsame.mono (by decide) (by decide)⟩
    · exact retN X6 hx (t := .boolean) Bd.returns (by simp) (hb hby at_45) hr
    · exact ⟨rfl, N6⟩
  · have pre8 : ∀ t, SS p e below m s₁ 30 #[iv p1, iv p2, iv (1 : Int32), iv p1] [(.int p1)] t → B t := fun t kk => pre1 t (by
      refine XS.ifNo X0.here hx rfl (hb hby at_3) rfl ((if0 _ _).trans (feq hc2).1) ?_
      show SS p e below m s₁ 6 #[iv p1, iv p2, .unset, .unset] [] _
      refine XS.iconst X0.here hx rfl (hb hby at_6) ?_
      show SS p e below m s₁ 7 #[iv p1, iv p2, .unset, .unset] [(.int (1 : Int32))] _
      refine XS.goto X0.here hx rfl (pc0 := 7) (pc' := 11) rfl (hb hby at_7) (by decide) (by decide) ?_
      show SS p e below m s₁ 11 #[iv p1, iv p2, .unset, .unset] [(.int (1 : Int32))] _
      refine XS.istoreN X0.here hx rfl (hb hby at_11) rfl (l' := #[iv p1, iv p2, iv (1 : Int32), .unset]) rfl ?_
      show SS p e below m s₁ 12 #[iv p1, iv p2, iv (1 : Int32), .unset] [] _
      refine XS.iloadN X0.here hx rfl (hb hby at_12) rfl ?_
      show SS p e below m s₁ 13 #[iv p1, iv p2, iv (1 : Int32), .unset] [(.int (1 : Int32))] _
      refine XS.ifNo X0.here hx rfl (hb hby at_13) rfl ((if0 _ _).trans (feq (by decide : ¬ ((1 : Int32) = (0 : Int32)))).1) ?_
      show SS p e below m s₁ 16 #[iv p1, iv p2, iv (1 : Int32), .unset] [] _
      refine XS.iloadN X0.here hx rfl (hb hby at_16) rfl ?_
      show SS p e below m s₁ 17 #[iv p1, iv p2, iv (1 : Int32), .unset] [(.int p1)] _
      refine XS.goto X0.here hx rfl (pc0 := 17) (pc' := 28) rfl (hb hby at_17) (by decide) (by decide) ?_
      show SS p e below m s₁ 28 #[iv p1, iv p2, iv (1 : Int32), .unset] [(.int p1)] _
      refine XS.istoreN X0.here hx rfl (hb hby at_28) rfl (l' := #[iv p1, iv p2, iv (1 : Int32), iv p1]) rfl ?_
      show SS p e below m s₁ 29 #[iv p1, iv p2, iv (1 : Int32), iv p1] [] _
      refine XS.iloadN X0.here hx rfl (hb hby at_29) rfl ?_
      show SS p e below m s₁ 30 #[iv p1, iv p2, iv (1 : Int32), iv p1] [(.int p1)] _
      exact kk)
    obtain ⟨_, _, ⟨T9, L9, k9, n9⟩, -, X9, ⟨Lc9, hQ9, l9, y9, z9⟩, st9⟩ := Jvm.LawKit.callS X0 hx (y := (⟨"com/example/reston/reston/store/ByteBuilder", "varintLength", "(I)I"⟩ : MethodName)) hown (mvT hZ (hw _ (List.mem_of_getElem? (i := 0) rfl))) (mvT hZ (hw _ (List.mem_of_getElem? (i := 1) rfl))) (mvT hZ (hw _ (List.mem_of_getElem? (i := 2) rfl))) (mvT hZ (hw _ (List.mem_of_getElem? (i := 3) rfl))) (by decide) (backOf (W := 0) (rm1 l Z a0 hw [] p1 h0 n0 Z0 ) hZ (hw _ (List.mem_of_getElem? (i := 3) rfl)) (hw _ (List.mem_of_getElem? (i := 2) rfl)) (by decide) (by decide)) (g := (mkF m 30 #[iv p1, iv p2, iv (1 : Int32), iv p1] [(.int p1)])) rfl (by rw [hml]; rfl) (argsL := [(.int p1)]) (rest := []) (lenOf pd_0 rfl) rfl (by show 2 * 0 + _ ≤ _; exact Nat.le_of_eq rfl) (hb hby at_30) (fun _ _ => ⟨rfl, e0, (by decide : 0 + 0 ≤ _), (by decide : 0 + 0 ≤ _)⟩)
    dsimp only [Pt.U, Pt.locs, Pt.cells, Pt.slots] at X9 l9 y9 z9 st9 hQ9
    subst l9 y9 z9
    obtain ⟨rfl, N9q, e9⟩ := hQ9
    have N9 := Fr.app N0 N9q
    have pre10 : ∀ t, SS p e below m T9 34 #[iv p1, iv p2, iv (1 : Int32), iv p1] [(.int p1), (.int (f1 p1))] t → B t := fun t kk => pre8 t (by
      refine st9 _ ?_
      show SS p e below m T9 33 #[iv p1, iv p2, iv (1 : Int32), iv p1] [(.int (f1 p1))] _
      refine XS.iloadN X9.here hx rfl (hb hby at_33) rfl ?_
      show SS p e below m T9 34 #[iv p1, iv p2, iv (1 : Int32), iv p1] [(.int p1), (.int (f1 p1))] _
      exact kk)
    obtain ⟨_, _, ⟨T11, L11, k11, n11⟩, -, X11, ⟨Lc11, hQ11, l11, y11, z11⟩, st11⟩ := Jvm.LawKit.callS X9 hx (y := (⟨"com/example/reston/reston/store/ByteBuilderVarintLengthPinLaw", "expected", "(I)I"⟩ : MethodName)) hown (mvT hZ (hw _ (List.mem_of_getElem? (i := 4) rfl))) (mvT hZ (hw _ (List.mem_of_getElem? (i := 5) rfl))) (mvT hZ (hw _ (List.mem_of_getElem? (i := 6) rfl))) (mvT hZ (hw _ (List.mem_of_getElem? (i := 7) rfl))) (by decide) (backOf (W := 1) (rm2 l Z a0 hw [] p1 h0 n0 Z0 ) hZ (hw _ (List.mem_of_getElem? (i := 7) rfl)) (hw _ (List.mem_of_getElem? (i := 6) rfl)) (by decide) (by decide)) (g := (mkF m 34 #[iv p1, iv p2, iv (1 : Int32), iv p1] [(.int p1), (.int (f1 p1))])) rfl (by rw [hml]; rfl) (argsL := [(.int p1)]) (rest := [(.int (f1 p1))]) (lenOf pd_0 rfl) rfl (by show 2 * 0 + _ ≤ _; exact Nat.le_of_eq rfl) (hb hby at_34) (fun _ _ => ⟨rfl, e9, (by decide : 0 + 0 ≤ _), (by decide : 0 + 0 ≤ _)⟩)
    dsimp only [Pt.U, Pt.locs, Pt.cells, Pt.slots] at X11 l11 y11 z11 st11 hQ11
    subst l11 y11 z11
    obtain ⟨rfl, N11q, e11⟩ := hQ11
    have N11 := Fr.app N9 N11q
    have pre12 : ∀ t, SS p e below m T11 45 #[iv p1, iv p2, iv (1 : Int32), iv p1] [(.int (1 : Int32))] t → B t := fun t kk => pre10 t (by
      refine st11 _ ?_
      show SS p e below m T11 37 #[iv p1, iv p2, iv (1 : Int32), iv p1] [(.int (f2 p1)), (.int (f1 p1))] _
      refine XS.icmpNo X11.here hx rfl (hb hby at_37) rfl (teq (own_eq p1)).2 ?_
      show SS p e below m T11 40 #[iv p1, iv p2, iv (1 : Int32), iv p1] [] _
      refine XS.iconst X11.here hx rfl (hb hby at_40) ?_
      show SS p e below m T11 41 #[iv p1, iv p2, iv (1 : Int32), iv p1] [(.int (1 : Int32))] _
      refine XS.goto X11.here hx rfl (pc0 := 41) (pc' := 45) rfl (hb hby at_41) (by decide) (by decide) ?_
      show SS p e below m T11 45 #[iv p1, iv p2, iv (1 : Int32), iv p1] [(.int (1 : Int32))] _
      exact kk)
    obtain ⟨fs, hr, hrun, hended, hW, hsame⟩ := X11.leave (v := some (.int (1 : Int32))) (fun h => by rw [Bd.returns] at h; cases h)
    refine ⟨_, _, hB _ (pre12 _ ?_), hrun, hended, _, _, rfl, ?_, ⟨_, rfl⟩, hW, hsame.mono (by decide) (by decide)⟩
    · exact retN X11 hx (t := .boolean) Bd.returns (by simp) (hb hby at_45) hr
    · exact ⟨rfl, N11⟩
set_option maxRecDepth 65536 in
set_option maxHeartbeats 40000000 in
theorem comes_1 {Post : Tables → Env → Array Value → State → Outcome → State → Prop} (hpost : ∀ tb e args s v u, (limb_1_1.after args s (.returned v) u = true ∧ limb_1_2.after args s (.returned v) u = true ∧ True) → FrameEnd s (.returned v) u (Jvm.fieldLocs frame_1_writes args s ++ Jvm.arrayLocs frame_1_arrays args s ++ Jvm.staticLocs frame_1_statics s) 0 0 → Post tb e args s (.returned v) u) :
    ArmFor flags0 classFile x code maxLocals ret World_1 tables_1 room_1 Calls_1 rest_1 Pre_1 Post := by
  intro l hfl _ _ p e ha hc hk s m args below hf hA hF happ hP
  obtain ⟨hcalls, hrest, hpre⟩ := hP
  obtain ⟨-, -, -, hnamed, -, -, -, hat⟩ := (Spec.applies_iff hf).mp happ
  obtain ⟨hg, hn⟩ := and_e (Cond.before_iff.mp (show (Jvm.Cond.and given_1 narrow_1).before args s = true from hpre))
  obtain ⟨gg1, gg2⟩ := and_e hg
  obtain ⟨gg3, gg4⟩ := and_e gg2
  obtain ⟨w0, w1, rfl⟩ : ∃ w0 w1 : Value, args = #[w0, w1] := by
    have hs : args.size = 2 := by simpa [Cond.value, given_1] using gg1
    obtain ⟨L⟩ := args
    match L, hs with
    | [w0, w1], _ => exact ⟨w0, w1, rfl⟩
  have hw := fun d (hd : d ∈ tables_1) => atoms_spec (ws := Jvm.Cond.code x code maxLocals ret :: tables_1) hat d (List.mem_cons_of_mem _ hd)
  obtain ⟨i0, ei0⟩ := is_v gg3
  obtain rfl : w0 = (.int i0) := Option.some.inj ei0
  obtain ⟨i1, ei1⟩ := is_v gg4
  obtain rfl : w1 = (.int i1) := Option.some.inj ei1
  obtain ⟨n, o, h1, h2, h3, _, L, rfl, ⟨rfl, N⟩, hq⟩ := rm0 l s _ hw tables_1 i0 i1 s.heap s.heap.size (Nat.le_refl _)  p e ha hc hk s m _ below hf ((Spec.applies_iff_loose hf).mp happ).1 ⟨rfl, State.Warmed39.refl s, rfl⟩ trivial
  refine ⟨n, _, h1, h2, h3, hpost _ _ _ _ _ _ ⟨Cond.after_iff.mpr rfl, Cond.after_iff.mpr (eq_i res_at (Term.int_eval (1)) rfl), trivial⟩ ⟨hq.1, hq.2.1, (hq.2.2.sift fun y hy => Or.inr (N y hy)).mono (by decide) (by decide)⟩⟩
theorem main_1_1 : Claimed_1_1 := comes_1 fun _ _ _ _ _ _ h hF => ⟨h.1, hF⟩
theorem main_1_2 : Claimed_1_2 := comes_1 fun _ _ _ _ _ _ h hF => ⟨h.2.1, hF⟩
end Jvm.Pilot.@@N@@
namespace Jvm.Pilot.@@N@@
open Jvm Jvm.ClassFile Sem Op Lib Jvm.Free Jvm.Stand Jvm.Pilot.@@N@@.Jvm.D
/-! MADE BY PROGRAM (witnessworld.py) out of the Statement's table words and the real class files: 9 classes; the members and pool entries that the words name. The judged class is class 1, her method 2. -/
namespace start1
open Jvm.ClassFile
def u (s : String) : CpInfo := .utf8 (stringToUtf16 s)
/-- a pool by its gaps: so many unusable entries, then the entry; so many at the end -/
def gap : Nat → List CpInfo → List CpInfo
  | 0, r => r
  | n + 1, r => .unusable :: gap n r
def poolList (es : List (Nat × CpInfo)) (last : Nat) : List CpInfo := es.foldr (fun e r => gap e.1 (e.2 :: r)) (gap last [])
def pool (es : List (Nat × CpInfo)) (last : Nat) : Array CpInfo := ⟨poolList es last⟩
def fileOf (pool : Array CpInfo) (this : Nat) (attrs : Array Attribute := #[]) (ms : Array MethodInfo := #[]) (fl : Nat := 33) (sup : Nat := 0) (ifs : Array Nat := #[]) (fds : Array FieldInfo := #[]) : ClassFile where
  minorVersion := 0
  majorVersion := 65
  constantPool := pool
  accessFlags := fl
  thisClass := this
  superClass := sup
  interfaces := ifs
  fields := fds
  methods := ms
  attributes := attrs
def plain (name : String) (sup : Option ClassId) : Class where
  name := name
  kind := .ordinary
  loader := none
  accessFlags := 33
  super := sup
  interfaces := #[]
  cf := none
  fields := #[]
  methods := #[]
  instanceTypes := #[]
  staticTypes := #[]
  resolved := #[]
  callSites := []
  init := .initialized
  statics := none
  mirror := none

def pool0 : Array CpInfo := pool [(5, u "<init>"), (0, u "()V"), (1, .class_ 10), (1, u "java/lang/Object")] 113

def k0m0 : Method := { name := "<init>", desc := "()V", sig := { parameters := [], returnType := none }, accessFlags := 1, code := none }
/-- java/lang/Object -/
def k0 : Class := { plain "java/lang/Object" none with
  accessFlags := 33
  interfaces := #[]
  cf := some (fileOf pool0 8 #[] #[{ accessFlags := 1, nameIndex := 5, descriptorIndex := 6, attributes := #[] }] 33 0 #[] #[])
  fields := #[]
  methods := #[k0m0]
  instanceTypes := #[]
  staticTypes := #[]
  resolved := Array.replicate 124 none
  statics := none }

def pool1 : Array CpInfo := pool [(2, .class_ 4), (1, u "java/lang/Object"), (0, u "<init>"), (0, u "()V"), (0, .long 4294967295), (1, .long 128), (1, .long 16384), (1, .long 2097152), (1, .long 268435456), (1, .methodref 18 19), (0, .class_ 20), (0, .nameAndType 21 22), (0, u "com/example/reston/reston/store/ByteBuilder"), (0, u "varintLength"), (0, u "(I)I"), (0, .methodref 24 25), (0, .class_ 26), (0, .nameAndType 27 22), (0, u "com/example/reston/reston/store/ByteBuilderVarintLengthPinLaw"), (0, u "expected"), (3, u "law"), (0, u "(II)Z")] 2

def k1m0 : Method := { name := "<init>", desc := "()V", sig := { parameters := [], returnType := none }, accessFlags := 1, code := none }
def k1c1 : Code := { maxStack := 4, maxLocals := 3, code := method_2_code, exceptionTable := #[], attributes := #[] }
def k1m1 : Method := { name := "expected", desc := "(I)I", sig := { parameters := [.int], returnType := some .int }, accessFlags := 10, code := some k1c1 }
def k1c2 : Code := { maxStack := 3, maxLocals := 4, code := code, exceptionTable := #[], attributes := #[] }
def k1m2 : Method := { name := "law", desc := "(II)Z", sig := { parameters := [.int, .int], returnType := some .boolean }, accessFlags := 9, code := some k1c2 }
/-- com/example/reston/reston/store/ByteBuilderVarintLengthPinLaw -/
def k1 : Class := { plain "com/example/reston/reston/store/ByteBuilderVarintLengthPinLaw" (some 0) with
  accessFlags := 49
  interfaces := #[]
  cf := some (fileOf pool1 24 #[] #[{ accessFlags := 1, nameIndex := 5, descriptorIndex := 6, attributes := #[] }, { accessFlags := 10, nameIndex := 27, descriptorIndex := 22, attributes := #[] }, { accessFlags := 9, nameIndex := 31, descriptorIndex := 32, attributes := #[] }] 49 2 #[] #[])
  fields := #[]
  methods := #[k1m0, k1m1, k1m2]
  instanceTypes := #[]
  staticTypes := #[]
  resolved := Array.replicate 35 none
  statics := none }

def pool2 : Array CpInfo := pool [(2, .class_ 4), (1, u "java/lang/Object"), (9, .class_ 16), (1, u "com/example/reston/reston/store/ByteBuilder"), (0, u "bytes"), (0, u "[B"), (2, u "length"), (0, u "I"), (50, u "varintLength"), (0, u "(I)I")] 2

def k2c0 : Code := { maxStack := 2, maxLocals := 3, code := prog_82_method_10_code, exceptionTable := #[], attributes := #[] }
def k2m0 : Method := { name := "varintLength", desc := "(I)I", sig := { parameters := [.int], returnType := some .int }, accessFlags := 8, code := some k2c0 }
/-- com/example/reston/reston/store/ByteBuilder -/
def k2 : Class := { plain "com/example/reston/reston/store/ByteBuilder" (some 0) with
  accessFlags := 48
  interfaces := #[]
  cf := some (fileOf pool2 14 #[] #[{ accessFlags := 8, nameIndex := 73, descriptorIndex := 74, attributes := #[] }] 48 2 #[] #[{ accessFlags := 2, nameIndex := 17, descriptorIndex := 18, attributes := #[] }, { accessFlags := 2, nameIndex := 21, descriptorIndex := 22, attributes := #[] }])
  fields := #[{ name := "bytes", type := (.array .byte), accessFlags := 2, slot := 0, constantValue := 0 }, { name := "length", type := .int, accessFlags := 2, slot := 1, constantValue := 0 }]
  methods := #[k2m0]
  instanceTypes := #[(.array .byte), .int]
  staticTypes := #[]
  resolved := Array.replicate 77 none
  statics := none }

def pool3 : Array CpInfo := pool [(1, u "java/lang/Cloneable"), (0, .class_ 1), (0, u "java/lang/Object"), (0, .class_ 3)] 3

/-- java/lang/Cloneable -/
def k3 : Class := { plain "java/lang/Cloneable" (some 0) with
  accessFlags := 1537
  interfaces := #[]
  cf := some (fileOf pool3 2 #[] #[] 1537 4 #[] #[])
  fields := #[]
  methods := #[]
  instanceTypes := #[]
  staticTypes := #[]
  resolved := Array.replicate 8 none
  statics := none }

def pool4 : Array CpInfo := pool [(1, u "java/io/Serializable"), (0, .class_ 1), (0, u "java/lang/Object"), (0, .class_ 3)] 3

/-- java/io/Serializable -/
def k4 : Class := { plain "java/io/Serializable" (some 0) with
  accessFlags := 1537
  interfaces := #[]
  cf := some (fileOf pool4 2 #[] #[] 1537 4 #[] #[])
  fields := #[]
  methods := #[]
  instanceTypes := #[]
  staticTypes := #[]
  resolved := Array.replicate 8 none
  statics := none }

/-- the primitive byte -/
def k5 : Class := { plain "byte" none with kind := .primitive 'B', accessFlags := 0x411 }
/-- [B -/
def k6 : Class := { plain "[B" (some 0) with kind := .array 5 .byte, interfaces := #[3, 4], accessFlags := 1041 }

/-- the primitive int -/
def k7 : Class := { plain "int" none with kind := .primitive 'I', accessFlags := 0x411 }
/-- [I -/
def k8 : Class := { plain "[I" (some 0) with kind := .array 7 .int, interfaces := #[3, 4], accessFlags := 1041 }

def heap : Heap := #[]
def classes : Array Class := #[k0, k1, k2, k3, k4, k5, k6, k7, k8]
def interned : List (Array UInt16 × Addr) := []
def slotsUsed : Nat := 0
def theMethod : MethodId := ⟨1, 2⟩
def args0 : Array Value := #[.int 5, .int 5]
def aboutOver (below : List Frame) : State where
  vm := { classes := classes, interned := interned.toArray }
  heap := heap
  slotsUsed := slotsUsed
  threads := #[{ frames := .invoking theMethod args0 :: below }]
def below0 : List Frame := [.native { method := ⟨0, 0⟩, args := #[] }]
def about1 : State := aboutOver below0
def p0 : Program := .bare "" "" ""
def e0 : Env := launch0.env 0 0 0
theorem w_frames : about1.frames = Frame.invoking theMethod args0 :: below0 := rfl
set_option maxRecDepth 65536 in
theorem w_args : argsFit about1.vm theMethod args0 = true := by decide +kernel
set_option maxRecDepth 65536 in
theorem w_heap : heapFits about1 = true := by decide +kernel
set_option maxRecDepth 65536 in
theorem w_runnable : about1.curStatus? = some .runnable := by decide +kernel
set_option maxRecDepth 65536 in
theorem w_alone : about1.alone = true := by decide +kernel
set_option maxRecDepth 65536 in
theorem w_named : about1.methodNamed? x = some theMethod := by decide +kernel
set_option maxRecDepth 65536 in
theorem w_hears : about1.hears theMethod below0 = true := by decide +kernel
set_option maxRecDepth 65536 in
theorem w_ripe : about1.ripe theMethod args0 below0 = true := by decide +kernel
theorem w_running : about1.status = .running := rfl
set_option maxRecDepth 65536 in
theorem w_room : about1.hasRoom e0.platform room_1 = true :=
  launch0.hasRoom_least _ room_1 (by decide +kernel) (by decide +kernel) (by decide +kernel) (by decide +kernel) (by decide +kernel) (by decide +kernel)
theorem allAtoms_all (ts : List Jvm.Cond) (a : Array Jvm.Value) (st : Jvm.State) : (allAtoms ts).before a st = ts.all (fun c => c.before a st) := by
  induction ts with
  | nil => rfl
  | cons c t ih =>
    show (Jvm.Cond.and c (allAtoms t)).before a st = _
    rw [Jvm.Cond.before_and, ih, List.all_cons]
def words1 : List Jvm.Cond := Jvm.Cond.code x code maxLocals ret :: tables_1
/-- a 'code' word, met by the world's own term for the bytes: nothing is compared byte by byte -/
theorem code_word {y : MethodName} {bytes : ByteArray} {mx : Nat} {rt : Option FieldType} {a : Array Value} {s : State} {m : MethodId} {meth : Method} {c : Code} (h1 : s.methodNamed? y = some m) (h2 : s.vm.method? m = some meth) (h3 : meth.code = some c) (h4 : c.code = bytes)
    (h5 : (c.maxLocals == mx && c.exceptionTable.isEmpty && decide (c.maxStack ≤ mostOperands) && decide (meth.sig.returnType = rt) && !meth.locks && decide (parseMethodDescriptor y.desc = some meth.sig)) = true) : (Jvm.Cond.code y bytes mx rt).before a s = true := by
  simp only [Bool.and_eq_true, beq_iff_eq, Bool.not_eq_true', decide_eq_true_eq] at h5
  obtain ⟨⟨⟨⟨⟨g1, g2⟩, g3⟩, g4⟩, g5⟩, g6⟩ := h5
  simp [Cond.before, Cond.holds, Cond.value, h1, h2, h3, h4, g1, g2, g3, g4, g5, g6]
def isCode : Jvm.Cond → Bool
  | .code _ _ _ _ => true
  | _ => false
theorem all_split {L : List Jvm.Cond} {P : Jvm.Cond → Bool} (h1 : L.all (fun c => isCode c || P c) = true) (h2 : ∀ c ∈ L.filter isCode, P c = true) : L.all P = true := by
  refine List.all_eq_true.mpr fun c hc => ?_
  have h := List.all_eq_true.mp h1 c hc
  rcases Bool.eq_false_or_eq_true (isCode c) with hi | hi
  · exact h2 c (List.mem_filter.mpr ⟨hc, hi⟩)
  · simpa [hi] using h
set_option maxRecDepth 65536 in
theorem w_c0 : (Jvm.Cond.code x code maxLocals ret).before args0 about1 = true := code_word (m := ⟨1, 2⟩) (meth := k1m2) (c := k1c2) (by decide +kernel) rfl rfl rfl (by decide +kernel)
set_option maxRecDepth 65536 in
theorem w_c1 : (Jvm.Cond.code ({ cls := "com/example/reston/reston/store/ByteBuilder", name := "varintLength", desc := "(I)I" } : Jvm.MethodName) prog_82_method_10_code (3 : Nat) (Option.some Jvm.ClassFile.FieldType.int)).before args0 about1 = true := code_word (m := ⟨2, 0⟩) (meth := k2m0) (c := k2c0) (by decide +kernel) rfl rfl rfl (by decide +kernel)
set_option maxRecDepth 65536 in
theorem w_c2 : (Jvm.Cond.code ({ cls := "com/example/reston/reston/store/ByteBuilderVarintLengthPinLaw", name := "expected", desc := "(I)I" } : Jvm.MethodName) method_2_code (3 : Nat) (Option.some Jvm.ClassFile.FieldType.int)).before args0 about1 = true := code_word (m := ⟨1, 1⟩) (meth := k1m1) (c := k1c1) (by decide +kernel) rfl rfl rfl (by decide +kernel)
def codes1 : List Jvm.Cond := [Jvm.Cond.code x code maxLocals ret, Jvm.Cond.code ({ cls := "com/example/reston/reston/store/ByteBuilder", name := "varintLength", desc := "(I)I" } : Jvm.MethodName) prog_82_method_10_code (3 : Nat) (Option.some Jvm.ClassFile.FieldType.int), Jvm.Cond.code ({ cls := "com/example/reston/reston/store/ByteBuilderVarintLengthPinLaw", name := "expected", desc := "(I)I" } : Jvm.MethodName) method_2_code (3 : Nat) (Option.some Jvm.ClassFile.FieldType.int)]
set_option maxRecDepth 65536 in
theorem codes_eq : words1.filter isCode = codes1 := rfl
theorem w_codes : ∀ c ∈ words1.filter isCode, c.before args0 about1 = true := by
  rw [codes_eq]
  intro c hc
  simp only [codes1, List.mem_cons, List.not_mem_nil, or_false] at hc
  rcases hc with rfl | rfl | rfl
  · exact w_c0
  · exact w_c1
  · exact w_c2
set_option maxRecDepth 65536 in
theorem w_t1 : words1.all (fun c => isCode c || c.before args0 about1) = true := by decide +kernel
theorem w_tables : (allAtoms (Jvm.Cond.code x code maxLocals ret :: tables_1)).before args0 about1 = true := by
  rw [allAtoms_all]
  show words1.all (fun c => c.before args0 about1) = true
  refine all_split ?_ w_codes
  rw [w_t1]
set_option maxRecDepth 65536 in
theorem w_case : (Jvm.Cond.and given_1 narrow_1).before args0 about1 = true := by decide +kernel
theorem w_applies : (headSpec (Jvm.Cond.code x code maxLocals ret :: tables_1) room_1).applies x e0.platform about1 = true :=
  (Spec.applies_iff w_frames).mpr ⟨w_running, w_runnable, w_alone, w_named, w_hears, w_ripe, w_room, w_tables⟩
theorem atStart : AtStart classFile x code maxLocals ret World_1 tables_1 room_1 Calls_1 rest_1 Pre_1 launch0 p0 e0 about1 theMethod args0 below0 :=
  ⟨lists_1, trivial, launch0.admits_env _ _ _, launch0.least_env, fairChoices_fair.cas, fairChoices_fair.clock, w_frames, w_args, w_heap, w_applies, trivial, trivial, w_case⟩
end start1
theorem witness_1 : WitnessClaimed_1 := ⟨start1.p0, start1.e0, start1.about1, start1.theMethod, start1.args0, start1.below0, start1.atStart⟩
end Jvm.Pilot.@@N@@
