import JvmDerived
import JvmDerived.Pilot.@@N@@Statement
import JvmDerived.Pilot.@@N@@Code
set_option linter.unusedVariables false
set_option linter.unusedSimpArgs false
namespace Jvm.RoadKit
open Sem ClassFile Op Lib Jvm.Stand Jvm.Free Jvm.LawKit
section New
variable {p : Program} {l : Launch} {e : Env} {R : Room} {s : State} {m : MethodId} {args : Array Value} {below : List Frame} {meth : Method} {c : Code} {T : State} {locs : List Loc} {cells slots : Nat}
theorem retI (X : Stand p l e R s m args below meth c T locs cells slots) (hx : p.tables.exec = Jvm.exec) {pc : Nat} {Ls : Array Slot} {z : Int32} {rest : List Value} (hret : meth.sig.returnType = some .int) (hd : decode c.code pc = .ok (.ireturn, 1)) {fs : List Frame}
    (hl : ∀ (f : JFrame) (acts : List Action), f.method = m → f.locked = none → f.entered = [] → (doReturn e (T.setTop f) acts (some (.int z))).1 = T.setFrames fs) : Steps p.tables e below (T.setTop (mkF m pc Ls (.int z :: rest))) (T.setFrames fs) := by
  have hm' : T.vm.method? m = some meth := X.method'
  have hn : narrow .int (.int z) = .int z := rfl
  show Steps p.tables e below (T.setTop { method := m, pc := pc, locals := Ls, stack := _ :: rest, locked := none }) _
  jvm_step X.here [X.here.top, hx, hd, hm', hret, hn]
  first | (intro acts; rw [hl _ acts rfl rfl rfl]) | rw [hl _ _ rfl rfl rfl]
  exact Steps.refl _
theorem retL (X : Stand p l e R s m args below meth c T locs cells slots) (hx : p.tables.exec = Jvm.exec) {pc : Nat} {Ls : Array Slot} {z : Int64} {rest : List Value} (hret : meth.sig.returnType = some .long) (hd : decode c.code pc = .ok (.lreturn, 1)) {fs : List Frame}
    (hl : ∀ (f : JFrame) (acts : List Action), f.method = m → f.locked = none → f.entered = [] → (doReturn e (T.setTop f) acts (some (.long z))).1 = T.setFrames fs) : Steps p.tables e below (T.setTop (mkF m pc Ls (.long z :: rest))) (T.setFrames fs) := by
  have hm' : T.vm.method? m = some meth := X.method'
  have hn : narrow .long (.long z) = .long z := rfl
  show Steps p.tables e below (T.setTop { method := m, pc := pc, locals := Ls, stack := _ :: rest, locked := none }) _
  jvm_step X.here [X.here.top, hx, hd, hm', hret, hn]
  first | (intro acts; rw [hl _ acts rfl rfl rfl]) | rw [hl _ _ rfl rfl rfl]
  exact Steps.refl _
end New
end Jvm.RoadKit
namespace Jvm.Pilot.@@N@@
open Jvm Jvm.ClassFile Sem Op Lib Jvm.Free Jvm.Stand Jvm.LawKit Jvm.RoadKit Bundle Jvm.Pilot.@@N@@.Jvm.D
/-- the run comes from pc, with these locals and this stack, to t -/
abbrev SS (p : Program) (e : Env) (below : List Frame) (m : MethodId) (T : State) (pc : Nat) (ls : Array Slot) (st : List Value) (t : State) : Prop := Steps p.tables e below (T.setTop (mkF m pc ls st)) t
/-- a method that writes nothing and returns an int -/
def QI (r : Int32) (h0 : Heap) (n0 : Nat) (v : Option Value) (h : Heap) (L : List Loc) : Prop := v = some (.int r) ∧ Fr n0 L ∧ h = h0
def QL (r : Int64) (h0 : Heap) (n0 : Nat) (v : Option Value) (h : Heap) (L : List Loc) : Prop := v = some (.long r) ∧ Fr n0 L ∧ h = h0
def QV (h0 : Heap) (n0 : Nat) (v : Option Value) (h : Heap) (L : List Loc) : Prop := v = none ∧ Fr n0 L ∧ h = h0
/-- .. that may load String constants -/
def QC (r : Int32) (W0 : Vm → Heap → Prop) (h0 : Heap) (n0 : Nat) (v : Option Value) (h : Heap) (vm : Vm) (L : List Loc) : Prop := v = some (.int r) ∧ Fr n0 L ∧ Ext h0 h ∧ W0 vm h
def QIS (r : Int32) (h0 : Heap) (n0 : Nat) (v : Option Value) (h : Heap) (L : List Loc) : Prop := v = some (.int r) ∧ Fr n0 L ∧ Ext h0 h
theorem own_ext {a b c : Heap} (h : Ext a b) (k : Ext b c) : Ext a c := ⟨Nat.le_trans h.1 k.1, fun x y q => k.2 _ _ (h.2 _ _ q)⟩
theorem own_extw {a h h' : Heap} {x : Addr} {sl : Nat} {v : Value} (E : Ext a h) (W : Wr h h' x sl v) (q : a.size ≤ x) : Ext a h' := by
  have K := Keep.of_wr W
  refine ⟨Nat.le_trans E.1 K.1, fun y c hc => K.2.1 _ _ (E.2 _ _ hc) fun hm => ?_⟩
  have hl := (Array.getElem?_eq_some_iff.mp hc).1
  rw [List.mem_singleton] at hm
  rw [hm] at hl
  exact absurd hl (Nat.not_lt.mpr q)
def QE (n0 : Nat) (v : Option Value) (h : Heap) (L : List Loc) : Prop := v = some (.int 1) ∧ Fr n0 L
theorem own_getD (l : List Int32) (k : Nat) (d : Int32) : (l.map Value.int).getD k (.int d) = .int (l.getD k d) := by
  rw [List.getD_eq_getElem?_getD, List.getD_eq_getElem?_getD, List.getElem?_map]
  cases l[k]? <;> rfl
theorem d1_0 : decode method_3_code 0 = .ok (.iload_n 0, 1) := by decide +kernel
theorem d1_1 : decode method_3_code 1 = .ok (.iconst 3, 1) := by decide +kernel
theorem d1_2 : decode method_3_code 2 = .ok (.iand, 1) := by decide +kernel
theorem d1_3 : decode method_3_code 3 = .ok (.istore_n 1, 1) := by decide +kernel
theorem d1_4 : decode method_3_code 4 = .ok (.iload_n 1, 1) := by decide +kernel
theorem d1_5 : decode method_3_code 5 = .ok (.ifCond .ne 6, 3) := by decide +kernel
theorem d1_8 : decode method_3_code 8 = .ok (.bipush 10, 2) := by decide +kernel
theorem d1_10 : decode method_3_code 10 = .ok (.ireturn, 1) := by decide +kernel
theorem d1_11 : decode method_3_code 11 = .ok (.iload_n 1, 1) := by decide +kernel
theorem d1_12 : decode method_3_code 12 = .ok (.iconst 1, 1) := by decide +kernel
theorem d1_13 : decode method_3_code 13 = .ok (.if_icmp .ne 6, 3) := by decide +kernel
theorem d1_16 : decode method_3_code 16 = .ok (.bipush 13, 2) := by decide +kernel
theorem d1_18 : decode method_3_code 18 = .ok (.ireturn, 1) := by decide +kernel
theorem d1_19 : decode method_3_code 19 = .ok (.iload_n 0, 1) := by decide +kernel
theorem d1_20 : decode method_3_code 20 = .ok (.iconst 2, 1) := by decide +kernel
theorem d1_21 : decode method_3_code 21 = .ok (.ishr, 1) := by decide +kernel
theorem d1_22 : decode method_3_code 22 = .ok (.i2b, 1) := by decide +kernel
theorem d1_23 : decode method_3_code 23 = .ok (.ireturn, 1) := by decide +kernel
theorem pn_1 : plainName "pithline/io/HttpResponseHeadLengthPinLaw" = true := by first | (simp [plainName, overriddenIn]; done) | decide +kernel
theorem ef_1 (m : MethodId) (p1 : Int32) : entryFrame m #[(.int p1)] 2 = mkF m 0 #[iv p1, .unset] [] := by first | (simp [entryFrame, mkF, argsToLocals, Value.category]; done) | rfl
def f1 (p1 : Int32)  : Int32 := (if (p1 &&& (3 : Int32)) = (0 : Int32) then (10 : Int32) else (if (p1 &&& (3 : Int32)) = (1 : Int32) then (13 : Int32) else (nar .byte ((p1 >>> ((2 : Int32) &&& 31)).toInt8.toInt32))))
set_option maxRecDepth 65536 in
set_option maxHeartbeats 40000000 in
theorem rm1 (l : Launch) (Z : State) (a0 : Array Value) (hw : ∀ d ∈ tables_1, d.before a0 Z = true) (ws : List Jvm.Cond) (p1 : Int32)  (h0 : Heap) (n0 : Nat) (Z0 : n0 ≤ h0.size)  :
    MetFree l (⟨"pithline/io/HttpResponseHeadLengthPinLaw", "pick", "(I)B"⟩ : MethodName) (head1 (Jvm.Cond.code (⟨"pithline/io/HttpResponseHeadLengthPinLaw", "pick", "(I)B"⟩ : MethodName) method_3_code 2 (some .byte) :: ws) ({ frames := 0, cells := 0, slots := 0, locals := 0 } : Room)) (fun a U => a = #[(.int p1)] ∧ Z.Warmed39 U.vm ∧ U.heap = h0) (fun _ _ _ _ _ => True) (fun _ U o U' => ∃ v L, o = .returned v ∧ QI (f1 p1) h0 n0 v U'.heap L ∧ FrameEnd U o U' L ({ frames := 0, cells := 0, slots := 0, locals := 0 } : Room).cells ({ frames := 0, cells := 0, slots := 0, locals := 0 } : Room).slots) := by
  refine MetFree.of_bodySF (plainFor_of_name pn_1) hisR ?_
  intro p e s m args below meth c s₁ Bd hml0 hP hK
  obtain ⟨rfl, hZ, hh⟩ := hP
  have hx := Bd.exec
  have hby := Bd.bytes
  have hml : c.maxLocals = 2 := hml0
  have hown : s.vm.findClass "pithline/io/HttpResponseHeadLengthPinLaw" = some m.cls := findClass_of_methodNamed Bd.named
  have hnm := (name_of_methodNamed Bd.named Bd.method).1
  have X0 : Stand p l e ({ frames := 0, cells := 0, slots := 0, locals := 0 } : Room) s m #[(.int p1)] below meth c s₁ [] 0 0 := Stand.of_body Bd
  have e0 : s₁.heap = h0 := by rw [← hh, Bd.state]; rfl
  have N0 := Fr.nil n0
  obtain ⟨B, hB, pre0⟩ : ∃ B : State → Prop, (∀ t, B t → Steps p.tables e below (s₁.setTop (entryFrame m #[(.int p1)] 2)) t) ∧ ∀ t, SS p e below m s₁ 0 #[iv p1, .unset] [] t → B t := ⟨_, fun _ q => q, fun t kk => castTop (ef_1 m p1) kk⟩
  have pre1 : ∀ t, SS p e below m s₁ 5 #[iv p1, iv (p1 &&& (3 : Int32))] [(.int (p1 &&& (3 : Int32)))] t → B t := fun t kk => pre0 t (by
    show SS p e below m s₁ 0 #[iv p1, .unset] [] _
    refine XS.iloadN X0.here hx rfl (hb hby d1_0) rfl ?_
    show SS p e below m s₁ 1 #[iv p1, .unset] [(.int p1)] _
    refine XS.iconst X0.here hx rfl (hb hby d1_1) ?_
    show SS p e below m s₁ 2 #[iv p1, .unset] [(.int (3 : Int32)), (.int p1)] _
    refine XS.iand X0.here hx rfl (hb hby d1_2) rfl ?_
    show SS p e below m s₁ 3 #[iv p1, .unset] [(.int (p1 &&& (3 : Int32)))] _
    refine XS.istoreN X0.here hx rfl (hb hby d1_3) rfl (l' := #[iv p1, iv (p1 &&& (3 : Int32))]) rfl ?_
    show SS p e below m s₁ 4 #[iv p1, iv (p1 &&& (3 : Int32))] [] _
    refine XS.iloadN X0.here hx rfl (hb hby d1_4) rfl ?_
    show SS p e below m s₁ 5 #[iv p1, iv (p1 &&& (3 : Int32))] [(.int (p1 &&& (3 : Int32)))] _
    exact kk)
  by_cases hc2 : (p1 &&& (3 : Int32)) = (0 : Int32)
  · have pre3 : ∀ t, SS p e below m s₁ 10 #[iv p1, iv (p1 &&& (3 : Int32))] [(.int (10 : Int32))] t → B t := fun t kk => pre1 t (by
      refine XS.ifNo X0.here hx rfl (hb hby d1_5) rfl ((if0 _ _).trans (teq hc2).2) ?_
      show SS p e below m s₁ 8 #[iv p1, iv (p1 &&& (3 : Int32))] [] _
      refine XS.bipush X0.here hx rfl (hb hby d1_8) ?_
      show SS p e below m s₁ 10 #[iv p1, iv (p1 &&& (3 : Int32))] [(.int (10 : Int32))] _
      exact kk)
    obtain ⟨fs, hr, hrun, hended, hW, hsame⟩ := X0.leave (v := some (.int (10 : Int32))) (fun h => by rw [Bd.returns] at h; cases h)
    refine ⟨_, _, hB _ (pre3 _ ?_), hrun, hended, _, _, rfl, ?_, ⟨_, rfl⟩, hW, hsame.mono (by decide) (by decide)⟩
    · exact retN X0 hx (t := .byte) Bd.returns (by simp) (hb hby d1_10) hr
    · exact ⟨by show _ = some (Value.int (f1 p1)); rw [f1, if_pos hc2], N0, e0⟩
  · have pre4 : ∀ t, SS p e below m s₁ 13 #[iv p1, iv (p1 &&& (3 : Int32))] [(.int (1 : Int32)), (.int (p1 &&& (3 : Int32)))] t → B t := fun t kk => pre1 t (by
      refine XS.ifYes X0.here hx rfl (pc0 := 5) (pc' := 11) rfl (hb hby d1_5) rfl ((if0 _ _).trans (feq hc2).2) (by decide) (by decide) ?_
      show SS p e below m s₁ 11 #[iv p1, iv (p1 &&& (3 : Int32))] [] _
      refine XS.iloadN X0.here hx rfl (hb hby d1_11) rfl ?_
      show SS p e below m s₁ 12 #[iv p1, iv (p1 &&& (3 : Int32))] [(.int (p1 &&& (3 : Int32)))] _
      refine XS.iconst X0.here hx rfl (hb hby d1_12) ?_
      show SS p e below m s₁ 13 #[iv p1, iv (p1 &&& (3 : Int32))] [(.int (1 : Int32)), (.int (p1 &&& (3 : Int32)))] _
      exact kk)
    by_cases hc5 : (p1 &&& (3 : Int32)) = (1 : Int32)
    · have pre6 : ∀ t, SS p e below m s₁ 18 #[iv p1, iv (p1 &&& (3 : Int32))] [(.int (13 : Int32))] t → B t := fun t kk => pre4 t (by
        refine XS.icmpNo X0.here hx rfl (hb hby d1_13) rfl (teq hc5).2 ?_
        show SS p e below m s₁ 16 #[iv p1, iv (p1 &&& (3 : Int32))] [] _
        refine XS.bipush X0.here hx rfl (hb hby d1_16) ?_
        show SS p e below m s₁ 18 #[iv p1, iv (p1 &&& (3 : Int32))] [(.int (13 : Int32))] _
        exact kk)
      obtain ⟨fs, hr, hrun, hended, hW, hsame⟩ := X0.leave (v := some (.int (13 : Int32))) (fun h => by rw [Bd.returns] at h; cases h)
      refine ⟨_, _, hB _ (pre6 _ ?_), hrun, hended, _, _, rfl, ?_, ⟨_, rfl⟩, hW, hsame.mono (by decide) (by decide)⟩
      · exact retN X0 hx (t := .byte) Bd.returns (by simp) (hb hby d1_18) hr
      · exact ⟨by show _ = some (Value.int (f1 p1)); rw [f1, if_neg hc2, if_pos hc5], N0, e0⟩
    · have pre7 : ∀ t, SS p e below m s₁ 23 #[iv p1, iv (p1 &&& (3 : Int32))] [(.int ((p1 >>> ((2 : Int32) &&& 31)).toInt8.toInt32))] t → B t := fun t kk => pre4 t (by
        refine XS.icmpYes X0.here hx rfl (pc0 := 13) (pc' := 19) rfl (hb hby d1_13) rfl (feq hc5).2 (by decide) (by decide) ?_
        show SS p e below m s₁ 19 #[iv p1, iv (p1 &&& (3 : Int32))] [] _
        refine XS.iloadN X0.here hx rfl (hb hby d1_19) rfl ?_
        show SS p e below m s₁ 20 #[iv p1, iv (p1 &&& (3 : Int32))] [(.int p1)] _
        refine XS.iconst X0.here hx rfl (hb hby d1_20) ?_
        show SS p e below m s₁ 21 #[iv p1, iv (p1 &&& (3 : Int32))] [(.int (2 : Int32)), (.int p1)] _
        refine XS.ishr X0.here hx rfl (hb hby d1_21) rfl ?_
        show SS p e below m s₁ 22 #[iv p1, iv (p1 &&& (3 : Int32))] [(.int (p1 >>> ((2 : Int32) &&& 31)))] _
        refine XS.i2b X0.here hx rfl (hb hby d1_22) rfl ?_
        show SS p e below m s₁ 23 #[iv p1, iv (p1 &&& (3 : Int32))] [(.int ((p1 >>> ((2 : Int32) &&& 31)).toInt8.toInt32))] _
        exact kk)
      obtain ⟨fs, hr, hrun, hended, hW, hsame⟩ := X0.leave (v := some (.int (nar .byte ((p1 >>> ((2 : Int32) &&& 31)).toInt8.toInt32)))) (fun h => by rw [Bd.returns] at h; cases h)
      refine ⟨_, _, hB _ (pre7 _ ?_), hrun, hended, _, _, rfl, ?_, ⟨_, rfl⟩, hW, hsame.mono (by decide) (by decide)⟩
      · exact retN X0 hx (t := .byte) Bd.returns (by simp) (hb hby d1_23) hr
      · exact ⟨by show _ = some (Value.int (f1 p1)); rw [f1, if_neg hc2, if_neg hc5], N0, e0⟩
theorem own_os {z0 z1 z2 z3 : Value} {o : Slot} {v : Int32} (h : One o) : storeLocals #[.val z0, .val z1, .val z2, .val z3, o] 4 (.int v) = some #[.val z0, .val z1, .val z2, .val z3, .val (.int v)] := by
  rcases h with rfl | ⟨w, rfl, hw⟩
  · rfl
  · cases w <;> first | rfl | (simp [Value.category] at hw)
theorem own_in6 (j : Int32) (h : 0 ≤ j.toInt ∧ j.toInt < 6) : ¬ j < 0 ∧ j < (6 : Int32) := by
  have L0 : (0 : Int32).toInt = 0 := by decide
  have L6 : (6 : Int32).toInt = 6 := by decide
  rw [Int32.lt_iff_toInt_lt, Int32.lt_iff_toInt_lt]; omega
theorem own_sub (x k : Int32) (n : Int) (hk : k.toInt = n) (h0 : 0 ≤ n) (h : n ≤ x.toInt) : (x - k).toInt = x.toInt - n := by
  have a := c_isub x k
  have r := rng32 (x - k)
  have r2 := rng32 x
  omega
theorem own_inc (x : Int32) (h : x.toInt < 100) : (x + (1 : Int32)).toInt = x.toInt + 1 := by
  have a := c_iadd x 1
  have r := rng32 (x + 1)
  have r2 := rng32 x
  have L1 : (1 : Int32).toInt = 1 := by decide
  omega
theorem own_lt {x y : Int32} (h : x < y) : x.toInt < y.toInt := Int32.lt_iff_toInt_lt.mp h
theorem own_nl {x y : Int32} (h : ¬ x < y) : y.toInt ≤ x.toInt := by rw [Int32.lt_iff_toInt_lt] at h; omega
theorem d2_0 : decode method_4_code 0 = .ok (.iload_n 2, 1) := by decide +kernel
theorem d2_1 : decode method_4_code 1 = .ok (.iload_n 1, 1) := by decide +kernel
theorem d2_2 : decode method_4_code 2 = .ok (.if_icmp .ge 11, 3) := by decide +kernel
theorem d2_5 : decode method_4_code 5 = .ok (.aload_n 0, 1) := by decide +kernel
theorem d2_6 : decode method_4_code 6 = .ok (.iload_n 2, 1) := by decide +kernel
theorem d2_7 : decode method_4_code 7 = .ok (.baload, 1) := by decide +kernel
theorem d2_8 : decode method_4_code 8 = .ok (.bipush 10, 2) := by decide +kernel
theorem d2_10 : decode method_4_code 10 = .ok (.if_icmp .eq 5, 3) := by decide +kernel
theorem d2_13 : decode method_4_code 13 = .ok (.iconst 0, 1) := by decide +kernel
theorem d2_14 : decode method_4_code 14 = .ok (.ireturn, 1) := by decide +kernel
theorem d2_15 : decode method_4_code 15 = .ok (.iload_n 2, 1) := by decide +kernel
theorem d2_16 : decode method_4_code 16 = .ok (.iconst 1, 1) := by decide +kernel
theorem d2_17 : decode method_4_code 17 = .ok (.if_icmp .lt 15, 3) := by decide +kernel
theorem d2_20 : decode method_4_code 20 = .ok (.aload_n 0, 1) := by decide +kernel
theorem d2_21 : decode method_4_code 21 = .ok (.iload_n 2, 1) := by decide +kernel
theorem d2_22 : decode method_4_code 22 = .ok (.iconst 1, 1) := by decide +kernel
theorem d2_23 : decode method_4_code 23 = .ok (.isub, 1) := by decide +kernel
theorem d2_24 : decode method_4_code 24 = .ok (.baload, 1) := by decide +kernel
theorem d2_25 : decode method_4_code 25 = .ok (.bipush 10, 2) := by decide +kernel
theorem d2_27 : decode method_4_code 27 = .ok (.if_icmp .ne 5, 3) := by decide +kernel
theorem d2_30 : decode method_4_code 30 = .ok (.iconst 1, 1) := by decide +kernel
theorem d2_31 : decode method_4_code 31 = .ok (.ireturn, 1) := by decide +kernel
theorem d2_32 : decode method_4_code 32 = .ok (.iload_n 2, 1) := by decide +kernel
theorem d2_33 : decode method_4_code 33 = .ok (.iconst 2, 1) := by decide +kernel
theorem d2_34 : decode method_4_code 34 = .ok (.if_icmp .lt 27, 3) := by decide +kernel
theorem d2_37 : decode method_4_code 37 = .ok (.aload_n 0, 1) := by decide +kernel
theorem d2_38 : decode method_4_code 38 = .ok (.iload_n 2, 1) := by decide +kernel
theorem d2_39 : decode method_4_code 39 = .ok (.iconst 1, 1) := by decide +kernel
theorem d2_40 : decode method_4_code 40 = .ok (.isub, 1) := by decide +kernel
theorem d2_41 : decode method_4_code 41 = .ok (.baload, 1) := by decide +kernel
theorem d2_42 : decode method_4_code 42 = .ok (.bipush 13, 2) := by decide +kernel
theorem d2_44 : decode method_4_code 44 = .ok (.if_icmp .ne 17, 3) := by decide +kernel
theorem d2_47 : decode method_4_code 47 = .ok (.aload_n 0, 1) := by decide +kernel
theorem d2_48 : decode method_4_code 48 = .ok (.iload_n 2, 1) := by decide +kernel
theorem d2_49 : decode method_4_code 49 = .ok (.iconst 2, 1) := by decide +kernel
theorem d2_50 : decode method_4_code 50 = .ok (.isub, 1) := by decide +kernel
theorem d2_51 : decode method_4_code 51 = .ok (.baload, 1) := by decide +kernel
theorem d2_52 : decode method_4_code 52 = .ok (.bipush 10, 2) := by decide +kernel
theorem d2_54 : decode method_4_code 54 = .ok (.if_icmp .ne 7, 3) := by decide +kernel
theorem d2_57 : decode method_4_code 57 = .ok (.iconst 1, 1) := by decide +kernel
theorem d2_58 : decode method_4_code 58 = .ok (.goto 4, 3) := by decide +kernel
theorem d2_61 : decode method_4_code 61 = .ok (.iconst 0, 1) := by decide +kernel
theorem d2_62 : decode method_4_code 62 = .ok (.ireturn, 1) := by decide +kernel
theorem pn_2 : plainName "pithline/io/HttpResponseHeadLengthPinLaw" = true := by first | (simp [plainName, overriddenIn]; done) | decide +kernel
theorem ef_2 (m : MethodId) (a1 : Addr) (p2 : Int32) (p3 : Int32) : entryFrame m #[(.ref a1), (.int p2), (.int p3)] 3 = mkF m 0 #[rv a1, iv p2, iv p3] [] := by first | (simp [entryFrame, mkF, argsToLocals, Value.category]; done) | rfl
def f2 (p2 : Int32) (p3 : Int32) (vs : List Int32) : Int32 := (if p3 < p2 then (if (vs.getD (p3).toNatClampNeg 0) = (10 : Int32) then (if p3 < (1 : Int32) then (if p3 < (2 : Int32) then (0 : Int32) else (if (vs.getD ((p3 - (1 : Int32))).toNatClampNeg 0) = (13 : Int32) then (if (vs.getD ((p3 - (2 : Int32))).toNatClampNeg 0) = (10 : Int32) then (1 : Int32) else (0 : Int32)) else (0 : Int32))) else (if (vs.getD ((p3 - (1 : Int32))).toNatClampNeg 0) = (10 : Int32) then (1 : Int32) else (if p3 < (2 : Int32) then (0 : Int32) else (if (vs.getD ((p3 - (1 : Int32))).toNatClampNeg 0) = (13 : Int32) then (if (vs.getD ((p3 - (2 : Int32))).toNatClampNeg 0) = (10 : Int32) then (1 : Int32) else (0 : Int32)) else (0 : Int32))))) else (0 : Int32)) else (0 : Int32))
set_option maxRecDepth 65536 in
set_option maxHeartbeats 40000000 in
theorem rm2 (l : Launch) (Z : State) (a0 : Array Value) (hw : ∀ d ∈ tables_1, d.before a0 Z = true) (ws : List Jvm.Cond) (a1 : Addr) (p2 : Int32) (p3 : Int32) (ka : ClassId) (vs : List Int32) (h0 : Heap) (n0 : Nat) (Z0 : n0 ≤ h0.size) (V_a1 : Arv Z h0 a1 ka .byte (6 : Int32) (vs.map Value.int) (.int (0 : Int32))) (hlen : p2.toInt ≤ 6) (hat0 : 0 ≤ p3.toInt) :
    MetFree l (⟨"pithline/io/HttpResponseHeadLengthPinLaw", "ends", "([BII)Z"⟩ : MethodName) (head1 (Jvm.Cond.code (⟨"pithline/io/HttpResponseHeadLengthPinLaw", "ends", "([BII)Z"⟩ : MethodName) method_4_code 3 (some .boolean) :: ws) ({ frames := 0, cells := 0, slots := 0, locals := 0 } : Room)) (fun a U => a = #[(.ref a1), (.int p2), (.int p3)] ∧ Z.Warmed39 U.vm ∧ U.heap = h0) (fun _ _ _ _ _ => True) (fun _ U o U' => ∃ v L, o = .returned v ∧ QI (f2 p2 p3 vs) h0 n0 v U'.heap L ∧ FrameEnd U o U' L ({ frames := 0, cells := 0, slots := 0, locals := 0 } : Room).cells ({ frames := 0, cells := 0, slots := 0, locals := 0 } : Room).slots) := by
  refine MetFree.of_bodySF (plainFor_of_name pn_2) hisR ?_
  intro p e s m args below meth c s₁ Bd hml0 hP hK
  obtain ⟨rfl, hZ, hh⟩ := hP
  have hx := Bd.exec
  have hby := Bd.bytes
  have hml : c.maxLocals = 3 := hml0
  have hown : s.vm.findClass "pithline/io/HttpResponseHeadLengthPinLaw" = some m.cls := findClass_of_methodNamed Bd.named
  have hnm := (name_of_methodNamed Bd.named Bd.method).1
  have X0 : Stand p l e ({ frames := 0, cells := 0, slots := 0, locals := 0 } : Room) s m #[(.ref a1), (.int p2), (.int p3)] below meth c s₁ [] 0 0 := Stand.of_body Bd
  have e0 : s₁.heap = h0 := by rw [← hh, Bd.state]; rfl
  have N0 := Fr.nil n0
  obtain ⟨B, hB, pre0⟩ : ∃ B : State → Prop, (∀ t, B t → Steps p.tables e below (s₁.setTop (entryFrame m #[(.ref a1), (.int p2), (.int p3)] 3)) t) ∧ ∀ t, SS p e below m s₁ 0 #[rv a1, iv p2, iv p3] [] t → B t := ⟨_, fun _ q => q, fun t kk => castTop (ef_2 m a1 p2 p3) kk⟩
  have pre1 : ∀ t, SS p e below m s₁ 2 #[rv a1, iv p2, iv p3] [(.int p2), (.int p3)] t → B t := fun t kk => pre0 t (by
    show SS p e below m s₁ 0 #[rv a1, iv p2, iv p3] [] _
    refine XS.iloadN X0.here hx rfl (hb hby d2_0) rfl ?_
    show SS p e below m s₁ 1 #[rv a1, iv p2, iv p3] [(.int p3)] _
    refine XS.iloadN X0.here hx rfl (hb hby d2_1) rfl ?_
    show SS p e below m s₁ 2 #[rv a1, iv p2, iv p3] [(.int p2), (.int p3)] _
    exact kk)
  by_cases hc2 : p3 < p2
  · have pre3 : ∀ t, SS p e below m s₁ 7 #[rv a1, iv p2, iv p3] [(.int p3), (.ref a1)] t → B t := fun t kk => pre1 t (by
      refine XS.icmpNo X0.here hx rfl (hb hby d2_2) rfl (tlt hc2).2.1 ?_
      show SS p e below m s₁ 5 #[rv a1, iv p2, iv p3] [] _
      refine XS.aloadN X0.here hx rfl (hb hby d2_5) rfl rfl ?_
      show SS p e below m s₁ 6 #[rv a1, iv p2, iv p3] [(.ref a1)] _
      refine XS.iloadN X0.here hx rfl (hb hby d2_6) rfl ?_
      show SS p e below m s₁ 7 #[rv a1, iv p2, iv p3] [(.int p3), (.ref a1)] _
      exact kk)
    obtain ⟨cl4, Ar4, -, S4, -, H4, -⟩ := id V_a1
    have hin4 : ¬ (p3 < 0 ∨ cl4.slots.size ≤ (p3).toNatClampNeg) := inb_of S4 (own_in6 p3 (by
      have := own_lt hc2
      have L0 : (0 : Int32).toInt = 0 := by decide
      have L1 : (1 : Int32).toInt = 1 := by decide
      have L2 : (2 : Int32).toInt = 2 := by decide
      have L6 : (6 : Int32).toInt = 6 := by decide
      omega))
    have hat4 : cl4.slots[(p3).toNatClampNeg]? = some (.int (vs.getD (p3).toNatClampNeg 0)) := by
      rw [H4 _ (Nat.lt_of_not_le fun q => hin4 (Or.inr q))]; exact congrArg some (own_getD vs _ 0)
    have pre5 : ∀ t, SS p e below m s₁ 10 #[rv a1, iv p2, iv p3] [(.int (10 : Int32)), (.int (vs.getD (p3).toNatClampNeg 0))] t → B t := fun t kk => pre3 t (by
      refine X0.baloadBytes hx (j := p3) (v := (.int (vs.getD (p3).toNatClampNeg 0))) (by rw [e0]; exact Ar4.1) (State.isArrayOf_alike hZ.alike Ar4.2.1) Ar4.2.2 hin4 hat4 (g := (mkF m 7 #[rv a1, iv p2, iv p3] [(.int p3), (.ref a1)])) rfl rfl (hb hby d2_7) _ ?_
      show SS p e below m s₁ 8 #[rv a1, iv p2, iv p3] [(.int (vs.getD (p3).toNatClampNeg 0))] _
      refine XS.bipush X0.here hx rfl (hb hby d2_8) ?_
      show SS p e below m s₁ 10 #[rv a1, iv p2, iv p3] [(.int (10 : Int32)), (.int (vs.getD (p3).toNatClampNeg 0))] _
      exact kk)
    by_cases hc6 : (vs.getD (p3).toNatClampNeg 0) = (10 : Int32)
    · have pre7 : ∀ t, SS p e below m s₁ 17 #[rv a1, iv p2, iv p3] [(.int (1 : Int32)), (.int p3)] t → B t := fun t kk => pre5 t (by
        refine XS.icmpYes X0.here hx rfl (pc0 := 10) (pc' := 15) rfl (hb hby d2_10) rfl (teq hc6).1 (by decide) (by decide) ?_
        show SS p e below m s₁ 15 #[rv a1, iv p2, iv p3] [] _
        refine XS.iloadN X0.here hx rfl (hb hby d2_15) rfl ?_
        show SS p e below m s₁ 16 #[rv a1, iv p2, iv p3] [(.int p3)] _
        refine XS.iconst X0.here hx rfl (hb hby d2_16) ?_
        show SS p e below m s₁ 17 #[rv a1, iv p2, iv p3] [(.int (1 : Int32)), (.int p3)] _
        exact kk)
      by_cases hc8 : p3 < (1 : Int32)
      · have pre9 : ∀ t, SS p e below m s₁ 34 #[rv a1, iv p2, iv p3] [(.int (2 : Int32)), (.int p3)] t → B t := fun t kk => pre7 t (by
          refine XS.icmpYes X0.here hx rfl (pc0 := 17) (pc' := 32) rfl (hb hby d2_17) rfl (tlt hc8).1 (by decide) (by decide) ?_
          show SS p e below m s₁ 32 #[rv a1, iv p2, iv p3] [] _
          refine XS.iloadN X0.here hx rfl (hb hby d2_32) rfl ?_
          show SS p e below m s₁ 33 #[rv a1, iv p2, iv p3] [(.int p3)] _
          refine XS.iconst X0.here hx rfl (hb hby d2_33) ?_
          show SS p e below m s₁ 34 #[rv a1, iv p2, iv p3] [(.int (2 : Int32)), (.int p3)] _
          exact kk)
        by_cases hc10 : p3 < (2 : Int32)
        · have pre11 : ∀ t, SS p e below m s₁ 62 #[rv a1, iv p2, iv p3] [(.int (0 : Int32))] t → B t := fun t kk => pre9 t (by
            refine XS.icmpYes X0.here hx rfl (pc0 := 34) (pc' := 61) rfl (hb hby d2_34) rfl (tlt hc10).1 (by decide) (by decide) ?_
            show SS p e below m s₁ 61 #[rv a1, iv p2, iv p3] [] _
            refine XS.iconst X0.here hx rfl (hb hby d2_61) ?_
            show SS p e below m s₁ 62 #[rv a1, iv p2, iv p3] [(.int (0 : Int32))] _
            exact kk)
          obtain ⟨fs, hr, hrun, hended, hW, hsame⟩ := X0.leave (v := some (.int (0 : Int32))) (fun h => by rw [Bd.returns] at h; cases h)
          refine ⟨_, _, hB _ (pre11 _ ?_), hrun, hended, _, _, rfl, ?_, ⟨_, rfl⟩, hW, hsame.mono (by decide) (by decide)⟩
          · exact retN X0 hx (t := .boolean) Bd.returns (by simp) (hb hby d2_62) hr
          · exact ⟨by show _ = some (Value.int (f2 p2 p3 vs)); rw [f2, if_pos hc2, if_pos hc6, if_pos hc8, if_pos hc10], N0, e0⟩
        · have pre12 : ∀ t, SS p e below m s₁ 41 #[rv a1, iv p2, iv p3] [(.int (p3 - (1 : Int32))), (.ref a1)] t → B t := fun t kk => pre9 t (by
            refine XS.icmpNo X0.here hx rfl (hb hby d2_34) rfl (flt hc10).1 ?_
            show SS p e below m s₁ 37 #[rv a1, iv p2, iv p3] [] _
            refine XS.aloadN X0.here hx rfl (hb hby d2_37) rfl rfl ?_
            show SS p e below m s₁ 38 #[rv a1, iv p2, iv p3] [(.ref a1)] _
            refine XS.iloadN X0.here hx rfl (hb hby d2_38) rfl ?_
            show SS p e below m s₁ 39 #[rv a1, iv p2, iv p3] [(.int p3), (.ref a1)] _
            refine XS.iconst X0.here hx rfl (hb hby d2_39) ?_
            show SS p e below m s₁ 40 #[rv a1, iv p2, iv p3] [(.int (1 : Int32)), (.int p3), (.ref a1)] _
            refine XS.isub X0.here hx rfl (hb hby d2_40) rfl ?_
            show SS p e below m s₁ 41 #[rv a1, iv p2, iv p3] [(.int (p3 - (1 : Int32))), (.ref a1)] _
            exact kk)
          obtain ⟨cl13, Ar13, -, S13, -, H13, -⟩ := id V_a1
          have hin13 : ¬ ((p3 - (1 : Int32)) < 0 ∨ cl13.slots.size ≤ ((p3 - (1 : Int32))).toNatClampNeg) := inb_of S13 (own_in6 (p3 - (1 : Int32)) (by
            have := own_lt hc2
            have := own_lt hc8
            have := own_nl hc10
            have L0 : (0 : Int32).toInt = 0 := by decide
            have L1 : (1 : Int32).toInt = 1 := by decide
            have L2 : (2 : Int32).toInt = 2 := by decide
            have L6 : (6 : Int32).toInt = 6 := by decide
            have := own_sub p3 (1 : Int32) 1 (by decide) (by decide) (by omega)
            omega))
          have hat13 : cl13.slots[((p3 - (1 : Int32))).toNatClampNeg]? = some (.int (vs.getD ((p3 - (1 : Int32))).toNatClampNeg 0)) := by
            rw [H13 _ (Nat.lt_of_not_le fun q => hin13 (Or.inr q))]; exact congrArg some (own_getD vs _ 0)
          have pre14 : ∀ t, SS p e below m s₁ 44 #[rv a1, iv p2, iv p3] [(.int (13 : Int32)), (.int (vs.getD ((p3 - (1 : Int32))).toNatClampNeg 0))] t → B t := fun t kk => pre12 t (by
            refine X0.baloadBytes hx (j := (p3 - (1 : Int32))) (v := (.int (vs.getD ((p3 - (1 : Int32))).toNatClampNeg 0))) (by rw [e0]; exact Ar13.1) (State.isArrayOf_alike hZ.alike Ar13.2.1) Ar13.2.2 hin13 hat13 (g := (mkF m 41 #[rv a1, iv p2, iv p3] [(.int (p3 - (1 : Int32))), (.ref a1)])) rfl rfl (hb hby d2_41) _ ?_
            show SS p e below m s₁ 42 #[rv a1, iv p2, iv p3] [(.int (vs.getD ((p3 - (1 : Int32))).toNatClampNeg 0))] _
            refine XS.bipush X0.here hx rfl (hb hby d2_42) ?_
            show SS p e below m s₁ 44 #[rv a1, iv p2, iv p3] [(.int (13 : Int32)), (.int (vs.getD ((p3 - (1 : Int32))).toNatClampNeg 0))] _
            exact kk)
          by_cases hc15 : (vs.getD ((p3 - (1 : Int32))).toNatClampNeg 0) = (13 : Int32)
          · have pre16 : ∀ t, SS p e below m s₁ 51 #[rv a1, iv p2, iv p3] [(.int (p3 - (2 : Int32))), (.ref a1)] t → B t := fun t kk => pre14 t (by
              refine XS.icmpNo X0.here hx rfl (hb hby d2_44) rfl (teq hc15).2 ?_
              show SS p e below m s₁ 47 #[rv a1, iv p2, iv p3] [] _
              refine XS.aloadN X0.here hx rfl (hb hby d2_47) rfl rfl ?_
              show SS p e below m s₁ 48 #[rv a1, iv p2, iv p3] [(.ref a1)] _
              refine XS.iloadN X0.here hx rfl (hb hby d2_48) rfl ?_
              show SS p e below m s₁ 49 #[rv a1, iv p2, iv p3] [(.int p3), (.ref a1)] _
              refine XS.iconst X0.here hx rfl (hb hby d2_49) ?_
              show SS p e below m s₁ 50 #[rv a1, iv p2, iv p3] [(.int (2 : Int32)), (.int p3), (.ref a1)] _
              refine XS.isub X0.here hx rfl (hb hby d2_50) rfl ?_
              show SS p e below m s₁ 51 #[rv a1, iv p2, iv p3] [(.int (p3 - (2 : Int32))), (.ref a1)] _
              exact kk)
            obtain ⟨cl17, Ar17, -, S17, -, H17, -⟩ := id V_a1
            have hin17 : ¬ ((p3 - (2 : Int32)) < 0 ∨ cl17.slots.size ≤ ((p3 - (2 : Int32))).toNatClampNeg) := inb_of S17 (own_in6 (p3 - (2 : Int32)) (by
              have := own_lt hc2
              have := own_lt hc8
              have := own_nl hc10
              have L0 : (0 : Int32).toInt = 0 := by decide
              have L1 : (1 : Int32).toInt = 1 := by decide
              have L2 : (2 : Int32).toInt = 2 := by decide
              have L6 : (6 : Int32).toInt = 6 := by decide
              have := own_sub p3 (2 : Int32) 2 (by decide) (by decide) (by omega)
              omega))
            have hat17 : cl17.slots[((p3 - (2 : Int32))).toNatClampNeg]? = some (.int (vs.getD ((p3 - (2 : Int32))).toNatClampNeg 0)) := by
              rw [H17 _ (Nat.lt_of_not_le fun q => hin17 (Or.inr q))]; exact congrArg some (own_getD vs _ 0)
            have pre18 : ∀ t, SS p e below m s₁ 54 #[rv a1, iv p2, iv p3] [(.int (10 : Int32)), (.int (vs.getD ((p3 - (2 : Int32))).toNatClampNeg 0))] t → B t := fun t kk => pre16 t (by
              refine X0.baloadBytes hx (j := (p3 - (2 : Int32))) (v := (.int (vs.getD ((p3 - (2 : Int32))).toNatClampNeg 0))) (by rw [e0]; exact Ar17.1) (State.isArrayOf_alike hZ.alike Ar17.2.1) Ar17.2.2 hin17 hat17 (g := (mkF m 51 #[rv a1, iv p2, iv p3] [(.int (p3 - (2 : Int32))), (.ref a1)])) rfl rfl (hb hby d2_51) _ ?_
              show SS p e below m s₁ 52 #[rv a1, iv p2, iv p3] [(.int (vs.getD ((p3 - (2 : Int32))).toNatClampNeg 0))] _
              refine XS.bipush X0.here hx rfl (hb hby d2_52) ?_
              show SS p e below m s₁ 54 #[rv a1, iv p2, iv p3] [(.int (10 : Int32)), (.int (vs.getD ((p3 - (2 : Int32))).toNatClampNeg 0))] _
              exact kk)
            by_cases hc19 : (vs.getD ((p3 - (2 : Int32))).toNatClampNeg 0) = (10 : Int32)
            · have pre20 : ∀ t, SS p e below m s₁ 62 #[rv a1, iv p2, iv p3] [(.int (1 : Int32))] t → B t := fun t kk => pre18 t (by
                refine XS.icmpNo X0.here hx rfl (hb hby d2_54) rfl (teq hc19).2 ?_
                show SS p e below m s₁ 57 #[rv a1, iv p2, iv p3] [] _
                refine XS.iconst X0.here hx rfl (hb hby d2_57) ?_
                show SS p e below m s₁ 58 #[rv a1, iv p2, iv p3] [(.int (1 : Int32))] _
                refine XS.goto X0.here hx rfl (pc0 := 58) (pc' := 62) rfl (hb hby d2_58) (by decide) (by decide) ?_
                show SS p e below m s₁ 62 #[rv a1, iv p2, iv p3] [(.int (1 : Int32))] _
                exact kk)
              obtain ⟨fs, hr, hrun, hended, hW, hsame⟩ := X0.leave (v := some (.int (1 : Int32))) (fun h => by rw [Bd.returns] at h; cases h)
              refine ⟨_, _, hB _ (pre20 _ ?_), hrun, hended, _, _, rfl, ?_, ⟨_, rfl⟩, hW, hsame.mono (by decide) (by decide)⟩
              · exact retN X0 hx (t := .boolean) Bd.returns (by simp) (hb hby d2_62) hr
              · exact ⟨by show _ = some (Value.int (f2 p2 p3 vs)); rw [f2, if_pos hc2, if_pos hc6, if_pos hc8, if_neg hc10, if_pos hc15, if_pos hc19], N0, e0⟩
            · have pre21 : ∀ t, SS p e below m s₁ 62 #[rv a1, iv p2, iv p3] [(.int (0 : Int32))] t → B t := fun t kk => pre18 t (by
                refine XS.icmpYes X0.here hx rfl (pc0 := 54) (pc' := 61) rfl (hb hby d2_54) rfl (feq hc19).2 (by decide) (by decide) ?_
                show SS p e below m s₁ 61 #[rv a1, iv p2, iv p3] [] _
                refine XS.iconst X0.here hx rfl (hb hby d2_61) ?_
                show SS p e below m s₁ 62 #[rv a1, iv p2, iv p3] [(.int (0 : Int32))] _
                exact kk)
              obtain ⟨fs, hr, hrun, hended, hW, hsame⟩ := X0.leave (v := some (.int (0 : Int32))) (fun h => by rw [Bd.returns] at h; cases h)
              refine ⟨_, _, hB _ (pre21 _ ?_), hrun, hended, _, _, rfl, ?_, ⟨_, rfl⟩, hW, hsame.mono (by decide) (by decide)⟩
              · exact retN X0 hx (t := .boolean) Bd.returns (by simp) (hb hby d2_62) hr
              · exact ⟨by show _ = some (Value.int (f2 p2 p3 vs)); rw [f2, if_pos hc2, if_pos hc6, if_pos hc8, if_neg hc10, if_pos hc15, if_neg hc19], N0, e0⟩
          · have pre22 : ∀ t, SS p e below m s₁ 62 #[rv a1, iv p2, iv p3] [(.int (0 : Int32))] t → B t := fun t kk => pre14 t (by
              refine XS.icmpYes X0.here hx rfl (pc0 := 44) (pc' := 61) rfl (hb hby d2_44) rfl (feq hc15).2 (by decide) (by decide) ?_
              show SS p e below m s₁ 61 #[rv a1, iv p2, iv p3] [] _
              refine XS.iconst X0.here hx rfl (hb hby d2_61) ?_
              show SS p e below m s₁ 62 #[rv a1, iv p2, iv p3] [(.int (0 : Int32))] _
              exact kk)
            obtain ⟨fs, hr, hrun, hended, hW, hsame⟩ := X0.leave (v := some (.int (0 : Int32))) (fun h => by rw [Bd.returns] at h; cases h)
            refine ⟨_, _, hB _ (pre22 _ ?_), hrun, hended, _, _, rfl, ?_, ⟨_, rfl⟩, hW, hsame.mono (by decide) (by decide)⟩
            · exact retN X0 hx (t := .boolean) Bd.returns (by simp) (hb hby d2_62) hr
            · exact ⟨by show _ = some (Value.int (f2 p2 p3 vs)); rw [f2, if_pos hc2, if_pos hc6, if_pos hc8, if_neg hc10, if_neg hc15], N0, e0⟩
      · have pre23 : ∀ t, SS p e below m s₁ 24 #[rv a1, iv p2, iv p3] [(.int (p3 - (1 : Int32))), (.ref a1)] t → B t := fun t kk => pre7 t (by
          refine XS.icmpNo X0.here hx rfl (hb hby d2_17) rfl (flt hc8).1 ?_
          show SS p e below m s₁ 20 #[rv a1, iv p2, iv p3] [] _
          refine XS.aloadN X0.here hx rfl (hb hby d2_20) rfl rfl ?_
          show SS p e below m s₁ 21 #[rv a1, iv p2, iv p3] [(.ref a1)] _
          refine XS.iloadN X0.here hx rfl (hb hby d2_21) rfl ?_
          show SS p e below m s₁ 22 #[rv a1, iv p2, iv p3] [(.int p3), (.ref a1)] _
          refine XS.iconst X0.here hx rfl (hb hby d2_22) ?_
          show SS p e below m s₁ 23 #[rv a1, iv p2, iv p3] [(.int (1 : Int32)), (.int p3), (.ref a1)] _
          refine XS.isub X0.here hx rfl (hb hby d2_23) rfl ?_
          show SS p e below m s₁ 24 #[rv a1, iv p2, iv p3] [(.int (p3 - (1 : Int32))), (.ref a1)] _
          exact kk)
        obtain ⟨cl24, Ar24, -, S24, -, H24, -⟩ := id V_a1
        have hin24 : ¬ ((p3 - (1 : Int32)) < 0 ∨ cl24.slots.size ≤ ((p3 - (1 : Int32))).toNatClampNeg) := inb_of S24 (own_in6 (p3 - (1 : Int32)) (by
          have := own_lt hc2
          have := own_nl hc8
          have L0 : (0 : Int32).toInt = 0 := by decide
          have L1 : (1 : Int32).toInt = 1 := by decide
          have L2 : (2 : Int32).toInt = 2 := by decide
          have L6 : (6 : Int32).toInt = 6 := by decide
          have := own_sub p3 (1 : Int32) 1 (by decide) (by decide) (by omega)
          omega))
        have hat24 : cl24.slots[((p3 - (1 : Int32))).toNatClampNeg]? = some (.int (vs.getD ((p3 - (1 : Int32))).toNatClampNeg 0)) := by
          rw [H24 _ (Nat.lt_of_not_le fun q => hin24 (Or.inr q))]; exact congrArg some (own_getD vs _ 0)
        have pre25 : ∀ t, SS p e below m s₁ 27 #[rv a1, iv p2, iv p3] [(.int (10 : Int32)), (.int (vs.getD ((p3 - (1 : Int32))).toNatClampNeg 0))] t → B t := fun t kk => pre23 t (by
          refine X0.baloadBytes hx (j := (p3 - (1 : Int32))) (v := (.int (vs.getD ((p3 - (1 : Int32))).toNatClampNeg 0))) (by rw [e0]; exact Ar24.1) (State.isArrayOf_alike hZ.alike Ar24.2.1) Ar24.2.2 hin24 hat24 (g := (mkF m 24 #[rv a1, iv p2, iv p3] [(.int (p3 - (1 : Int32))), (.ref a1)])) rfl rfl (hb hby d2_24) _ ?_
          show SS p e below m s₁ 25 #[rv a1, iv p2, iv p3] [(.int (vs.getD ((p3 - (1 : Int32))).toNatClampNeg 0))] _
          refine XS.bipush X0.here hx rfl (hb hby d2_25) ?_
          show SS p e below m s₁ 27 #[rv a1, iv p2, iv p3] [(.int (10 : Int32)), (.int (vs.getD ((p3 - (1 : Int32))).toNatClampNeg 0))] _
          exact kk)
        by_cases hc26 : (vs.getD ((p3 - (1 : Int32))).toNatClampNeg 0) = (10 : Int32)
        · have pre27 : ∀ t, SS p e below m s₁ 31 #[rv a1, iv p2, iv p3] [(.int (1 : Int32))] t → B t := fun t kk => pre25 t (by
            refine XS.icmpNo X0.here hx rfl (hb hby d2_27) rfl (teq hc26).2 ?_
            show SS p e below m s₁ 30 #[rv a1, iv p2, iv p3] [] _
            refine XS.iconst X0.here hx rfl (hb hby d2_30) ?_
            show SS p e below m s₁ 31 #[rv a1, iv p2, iv p3] [(.int (1 : Int32))] _
            exact kk)
          obtain ⟨fs, hr, hrun, hended, hW, hsame⟩ := X0.leave (v := some (.int (1 : Int32))) (fun h => by rw [Bd.returns] at h; cases h)
          refine ⟨_, _, hB _ (pre27 _ ?_), hrun, hended, _, _, rfl, ?_, ⟨_, rfl⟩, hW, hsame.mono (by decide) (by decide)⟩
          · exact retN X0 hx (t := .boolean) Bd.returns (by simp) (hb hby d2_31) hr
          · exact ⟨by show _ = some (Value.int (f2 p2 p3 vs)); rw [f2, if_pos hc2, if_pos hc6, if_neg hc8, if_pos hc26], N0, e0⟩
        · have pre28 : ∀ t, SS p e below m s₁ 34 #[rv a1, iv p2, iv p3] [(.int (2 : Int32)), (.int p3)] t → B t := fun t kk => pre25 t (by
            refine XS.icmpYes X0.here hx rfl (pc0 := 27) (pc' := 32) rfl (hb hby d2_27) rfl (feq hc26).2 (by decide) (by decide) ?_
            show SS p e below m s₁ 32 #[rv a1, iv p2, iv p3] [] _
            refine XS.iloadN X0.here hx rfl (hb hby d2_32) rfl ?_
            show SS p e below m s₁ 33 #[rv a1, iv p2, iv p3] [(.int p3)] _
            refine XS.iconst X0.here hx rfl (hb hby d2_33) ?_
            show SS p e below m s₁ 34 #[rv a1, iv p2, iv p3] [(.int (2 : Int32)), (.int p3)] _
            exact kk)
          by_cases hc29 : p3 < (2 : Int32)
          · have pre30 : ∀ t, SS p e below m s₁ 62 #[rv a1, iv p2, iv p3] [(.int (0 : Int32))] t → B t := fun t kk => pre28 t (by
              refine XS.icmpYes X0.here hx rfl (pc0 := 34) (pc' := 61) rfl (hb hby d2_34) rfl (tlt hc29).1 (by decide) (by decide) ?_
              show SS p e below m s₁ 61 #[rv a1, iv p2, iv p3] [] _
              refine XS.iconst X0.here hx rfl (hb hby d2_61) ?_
              show SS p e below m s₁ 62 #[rv a1, iv p2, iv p3] [(.int (0 : Int32))] _
              exact kk)
            obtain ⟨fs, hr, hrun, hended, hW, hsame⟩ := X0.leave (v := some (.int (0 : Int32))) (fun h => by rw [Bd.returns] at h; cases h)
            refine ⟨_, _, hB _ (pre30 _ ?_), hrun, hended, _, _, rfl, ?_, ⟨_, rfl⟩, hW, hsame.mono (by decide) (by decide)⟩
            · exact retN X0 hx (t := .boolean) Bd.returns (by simp) (hb hby d2_62) hr
            · exact ⟨by show _ = some (Value.int (f2 p2 p3 vs)); rw [f2, if_pos hc2, if_pos hc6, if_neg hc8, if_neg hc26, if_pos hc29], N0, e0⟩
          · have pre31 : ∀ t, SS p e below m s₁ 41 #[rv a1, iv p2, iv p3] [(.int (p3 - (1 : Int32))), (.ref a1)] t → B t := fun t kk => pre28 t (by
              refine XS.icmpNo X0.here hx rfl (hb hby d2_34) rfl (flt hc29).1 ?_
              show SS p e below m s₁ 37 #[rv a1, iv p2, iv p3] [] _
              refine XS.aloadN X0.here hx rfl (hb hby d2_37) rfl rfl ?_
              show SS p e below m s₁ 38 #[rv a1, iv p2, iv p3] [(.ref a1)] _
              refine XS.iloadN X0.here hx rfl (hb hby d2_38) rfl ?_
              show SS p e below m s₁ 39 #[rv a1, iv p2, iv p3] [(.int p3), (.ref a1)] _
              refine XS.iconst X0.here hx rfl (hb hby d2_39) ?_
              show SS p e below m s₁ 40 #[rv a1, iv p2, iv p3] [(.int (1 : Int32)), (.int p3), (.ref a1)] _
              refine XS.isub X0.here hx rfl (hb hby d2_40) rfl ?_
              show SS p e below m s₁ 41 #[rv a1, iv p2, iv p3] [(.int (p3 - (1 : Int32))), (.ref a1)] _
              exact kk)
            obtain ⟨cl32, Ar32, -, S32, -, H32, -⟩ := id V_a1
            have hin32 : ¬ ((p3 - (1 : Int32)) < 0 ∨ cl32.slots.size ≤ ((p3 - (1 : Int32))).toNatClampNeg) := inb_of S32 (own_in6 (p3 - (1 : Int32)) (by
              have := own_lt hc2
              have := own_nl hc8
              have := own_nl hc29
              have L0 : (0 : Int32).toInt = 0 := by decide
              have L1 : (1 : Int32).toInt = 1 := by decide
              have L2 : (2 : Int32).toInt = 2 := by decide
              have L6 : (6 : Int32).toInt = 6 := by decide
              have := own_sub p3 (1 : Int32) 1 (by decide) (by decide) (by omega)
              omega))
            have hat32 : cl32.slots[((p3 - (1 : Int32))).toNatClampNeg]? = some (.int (vs.getD ((p3 - (1 : Int32))).toNatClampNeg 0)) := by
              rw [H32 _ (Nat.lt_of_not_le fun q => hin32 (Or.inr q))]; exact congrArg some (own_getD vs _ 0)
            have pre33 : ∀ t, SS p e below m s₁ 44 #[rv a1, iv p2, iv p3] [(.int (13 : Int32)), (.int (vs.getD ((p3 - (1 : Int32))).toNatClampNeg 0))] t → B t := fun t kk => pre31 t (by
              refine X0.baloadBytes hx (j := (p3 - (1 : Int32))) (v := (.int (vs.getD ((p3 - (1 : Int32))).toNatClampNeg 0))) (by rw [e0]; exact Ar32.1) (State.isArrayOf_alike hZ.alike Ar32.2.1) Ar32.2.2 hin32 hat32 (g := (mkF m 41 #[rv a1, iv p2, iv p3] [(.int (p3 - (1 : Int32))), (.ref a1)])) rfl rfl (hb hby d2_41) _ ?_
              show SS p e below m s₁ 42 #[rv a1, iv p2, iv p3] [(.int (vs.getD ((p3 - (1 : Int32))).toNatClampNeg 0))] _
              refine XS.bipush X0.here hx rfl (hb hby d2_42) ?_
              show SS p e below m s₁ 44 #[rv a1, iv p2, iv p3] [(.int (13 : Int32)), (.int (vs.getD ((p3 - (1 : Int32))).toNatClampNeg 0))] _
              exact kk)
            by_cases hc34 : (vs.getD ((p3 - (1 : Int32))).toNatClampNeg 0) = (13 : Int32)
            · have pre35 : ∀ t, SS p e below m s₁ 51 #[rv a1, iv p2, iv p3] [(.int (p3 - (2 : Int32))), (.ref a1)] t → B t := fun t kk => pre33 t (by
                refine XS.icmpNo X0.here hx rfl (hb hby d2_44) rfl (teq hc34).2 ?_
                show SS p e below m s₁ 47 #[rv a1, iv p2, iv p3] [] _
                refine XS.aloadN X0.here hx rfl (hb hby d2_47) rfl rfl ?_
                show SS p e below m s₁ 48 #[rv a1, iv p2, iv p3] [(.ref a1)] _
                refine XS.iloadN X0.here hx rfl (hb hby d2_48) rfl ?_
                show SS p e below m s₁ 49 #[rv a1, iv p2, iv p3] [(.int p3), (.ref a1)] _
                refine XS.iconst X0.here hx rfl (hb hby d2_49) ?_
                show SS p e below m s₁ 50 #[rv a1, iv p2, iv p3] [(.int (2 : Int32)), (.int p3), (.ref a1)] _
                refine XS.isub X0.here hx rfl (hb hby d2_50) rfl ?_
                show SS p e below m s₁ 51 #[rv a1, iv p2, iv p3] [(.int (p3 - (2 : Int32))), (.ref a1)] _
                exact kk)
              obtain ⟨cl36, Ar36, -, S36, -, H36, -⟩ := id V_a1
              have hin36 : ¬ ((p3 - (2 : Int32)) < 0 ∨ cl36.slots.size ≤ ((p3 - (2 : Int32))).toNatClampNeg) := inb_of S36 (own_in6 (p3 - (2 : Int32)) (by
                have := own_lt hc2
                have := own_nl hc8
                have := own_nl hc29
                have L0 : (0 : Int32).toInt = 0 := by decide
                have L1 : (1 : Int32).toInt = 1 := by decide
                have L2 : (2 : Int32).toInt = 2 := by decide
                have L6 : (6 : Int32).toInt = 6 := by decide
                have := own_sub p3 (2 : Int32) 2 (by decide) (by decide) (by omega)
                omega))
              have hat36 : cl36.slots[((p3 - (2 : Int32))).toNatClampNeg]? = some (.int (vs.getD ((p3 - (2 : Int32))).toNatClampNeg 0)) := by
                rw [H36 _ (Nat.lt_of_not_le fun q => hin36 (Or.inr q))]; exact congrArg some (own_getD vs _ 0)
              have pre37 : ∀ t, SS p e below m s₁ 54 #[rv a1, iv p2, iv p3] [(.int (10 : Int32)), (.int (vs.getD ((p3 - (2 : Int32))).toNatClampNeg 0))] t → B t := fun t kk => pre35 t (by
                refine X0.baloadBytes hx (j := (p3 - (2 : Int32))) (v := (.int (vs.getD ((p3 - (2 : Int32))).toNatClampNeg 0))) (by rw [e0]; exact Ar36.1) (State.isArrayOf_alike hZ.alike Ar36.2.1) Ar36.2.2 hin36 hat36 (g := (mkF m 51 #[rv a1, iv p2, iv p3] [(.int (p3 - (2 : Int32))), (.ref a1)])) rfl rfl (hb hby d2_51) _ ?_
                show SS p e below m s₁ 52 #[rv a1, iv p2, iv p3] [(.int (vs.getD ((p3 - (2 : Int32))).toNatClampNeg 0))] _
                refine XS.bipush X0.here hx rfl (hb hby d2_52) ?_
                show SS p e below m s₁ 54 #[rv a1, iv p2, iv p3] [(.int (10 : Int32)), (.int (vs.getD ((p3 - (2 : Int32))).toNatClampNeg 0))] _
                exact kk)
              by_cases hc38 : (vs.getD ((p3 - (2 : Int32))).toNatClampNeg 0) = (10 : Int32)
              · have pre39 : ∀ t, SS p e below m s₁ 62 #[rv a1, iv p2, iv p3] [(.int (1 : Int32))] t → B t := fun t kk => pre37 t (by
                  refine XS.icmpNo X0.here hx rfl (hb hby d2_54) rfl (teq hc38).2 ?_
                  show SS p e below m s₁ 57 #[rv a1, iv p2, iv p3] [] _
                  refine XS.iconst X0.here hx rfl (hb hby d2_57) ?_
                  show SS p e below m s₁ 58 #[rv a1, iv p2, iv p3] [(.int (1 : Int32))] _
                  refine XS.goto X0.here hx rfl (pc0 := 58) (pc' := 62) rfl (hb hby d2_58) (by decide) (by decide) ?_
                  show SS p e below m s₁ 62 #[rv a1, iv p2, iv p3] [(.int (1 : Int32))] _
                  exact kk)
                obtain ⟨fs, hr, hrun, hended, hW, hsame⟩ := X0.leave (v := some (.int (1 : Int32))) (fun h => by rw [Bd.returns] at h; cases h)
                refine ⟨_, _, hB _ (pre39 _ ?_), hrun, hended, _, _, rfl, ?_, ⟨_, rfl⟩, hW, hsame.mono (by decide) (by decide)⟩
                · exact retN X0 hx (t := .boolean) Bd.returns (by simp) (hb hby d2_62) hr
                · exact ⟨by show _ = some (Value.int (f2 p2 p3 vs)); rw [f2, if_pos hc2, if_pos hc6, if_neg hc8, if_neg hc26, if_neg hc29, if_pos hc34, if_pos hc38], N0, e0⟩
              · have pre40 : ∀ t, SS p e below m s₁ 62 #[rv a1, iv p2, iv p3] [(.int (0 : Int32))] t → B t := fun t kk => pre37 t (by
                  refine XS.icmpYes X0.here hx rfl (pc0 := 54) (pc' := 61) rfl (hb hby d2_54) rfl (feq hc38).2 (by decide) (by decide) ?_
                  show SS p e below m s₁ 61 #[rv a1, iv p2, iv p3] [] _
                  refine XS.iconst X0.here hx rfl (hb hby d2_61) ?_
                  show SS p e below m s₁ 62 #[rv a1, iv p2, iv p3] [(.int (0 : Int32))] _
                  exact kk)
                obtain ⟨fs, hr, hrun, hended, hW, hsame⟩ := X0.leave (v := some (.int (0 : Int32))) (fun h => by rw [Bd.returns] at h; cases h)
                refine ⟨_, _, hB _ (pre40 _ ?_), hrun, hended, _, _, rfl, ?_, ⟨_, rfl⟩, hW, hsame.mono (by decide) (by decide)⟩
                · exact retN X0 hx (t := .boolean) Bd.returns (by simp) (hb hby d2_62) hr
                · exact ⟨by show _ = some (Value.int (f2 p2 p3 vs)); rw [f2, if_pos hc2, if_pos hc6, if_neg hc8, if_neg hc26, if_neg hc29, if_pos hc34, if_neg hc38], N0, e0⟩
            · have pre41 : ∀ t, SS p e below m s₁ 62 #[rv a1, iv p2, iv p3] [(.int (0 : Int32))] t → B t := fun t kk => pre33 t (by
                refine XS.icmpYes X0.here hx rfl (pc0 := 44) (pc' := 61) rfl (hb hby d2_44) rfl (feq hc34).2 (by decide) (by decide) ?_
                show SS p e below m s₁ 61 #[rv a1, iv p2, iv p3] [] _
                refine XS.iconst X0.here hx rfl (hb hby d2_61) ?_
                show SS p e below m s₁ 62 #[rv a1, iv p2, iv p3] [(.int (0 : Int32))] _
                exact kk)
              obtain ⟨fs, hr, hrun, hended, hW, hsame⟩ := X0.leave (v := some (.int (0 : Int32))) (fun h => by rw [Bd.returns] at h; cases h)
              refine ⟨_, _, hB _ (pre41 _ ?_), hrun, hended, _, _, rfl, ?_, ⟨_, rfl⟩, hW, hsame.mono (by decide) (by decide)⟩
              · exact retN X0 hx (t := .boolean) Bd.returns (by simp) (hb hby d2_62) hr
              · exact ⟨by show _ = some (Value.int (f2 p2 p3 vs)); rw [f2, if_pos hc2, if_pos hc6, if_neg hc8, if_neg hc26, if_neg hc29, if_neg hc34], N0, e0⟩
    · have pre42 : ∀ t, SS p e below m s₁ 14 #[rv a1, iv p2, iv p3] [(.int (0 : Int32))] t → B t := fun t kk => pre5 t (by
        refine XS.icmpNo X0.here hx rfl (hb hby d2_10) rfl (feq hc6).1 ?_
        show SS p e below m s₁ 13 #[rv a1, iv p2, iv p3] [] _
        refine XS.iconst X0.here hx rfl (hb hby d2_13) ?_
        show SS p e below m s₁ 14 #[rv a1, iv p2, iv p3] [(.int (0 : Int32))] _
        exact kk)
      obtain ⟨fs, hr, hrun, hended, hW, hsame⟩ := X0.leave (v := some (.int (0 : Int32))) (fun h => by rw [Bd.returns] at h; cases h)
      refine ⟨_, _, hB _ (pre42 _ ?_), hrun, hended, _, _, rfl, ?_, ⟨_, rfl⟩, hW, hsame.mono (by decide) (by decide)⟩
      · exact retN X0 hx (t := .boolean) Bd.returns (by simp) (hb hby d2_14) hr
      · exact ⟨by show _ = some (Value.int (f2 p2 p3 vs)); rw [f2, if_pos hc2, if_neg hc6], N0, e0⟩
  · have pre43 : ∀ t, SS p e below m s₁ 14 #[rv a1, iv p2, iv p3] [(.int (0 : Int32))] t → B t := fun t kk => pre1 t (by
      refine XS.icmpYes X0.here hx rfl (pc0 := 2) (pc' := 13) rfl (hb hby d2_2) rfl (flt hc2).2.1 (by decide) (by decide) ?_
      show SS p e below m s₁ 13 #[rv a1, iv p2, iv p3] [] _
      refine XS.iconst X0.here hx rfl (hb hby d2_13) ?_
      show SS p e below m s₁ 14 #[rv a1, iv p2, iv p3] [(.int (0 : Int32))] _
      exact kk)
    obtain ⟨fs, hr, hrun, hended, hW, hsame⟩ := X0.leave (v := some (.int (0 : Int32))) (fun h => by rw [Bd.returns] at h; cases h)
    refine ⟨_, _, hB _ (pre43 _ ?_), hrun, hended, _, _, rfl, ?_, ⟨_, rfl⟩, hW, hsame.mono (by decide) (by decide)⟩
    · exact retN X0 hx (t := .boolean) Bd.returns (by simp) (hb hby d2_14) hr
    · exact ⟨by show _ = some (Value.int (f2 p2 p3 vs)); rw [f2, if_neg hc2], N0, e0⟩
theorem d3_0 : decode prog_70_method_2_code 0 = .ok (.iconst 0, 1) := by decide +kernel
theorem d3_1 : decode prog_70_method_2_code 1 = .ok (.istore_n 2, 1) := by decide +kernel
theorem d3_2 : decode prog_70_method_2_code 2 = .ok (.iconst 0, 1) := by decide +kernel
theorem d3_3 : decode prog_70_method_2_code 3 = .ok (.istore_n 3, 1) := by decide +kernel
theorem d3_4 : decode prog_70_method_2_code 4 = .ok (.iload_n 3, 1) := by decide +kernel
theorem d3_5 : decode prog_70_method_2_code 5 = .ok (.iload_n 1, 1) := by decide +kernel
theorem d3_6 : decode prog_70_method_2_code 6 = .ok (.if_icmp .ge 55, 3) := by decide +kernel
theorem d3_9 : decode prog_70_method_2_code 9 = .ok (.aload_n 0, 1) := by decide +kernel
theorem d3_10 : decode prog_70_method_2_code 10 = .ok (.iload_n 3, 1) := by decide +kernel
theorem d3_11 : decode prog_70_method_2_code 11 = .ok (.baload, 1) := by decide +kernel
theorem d3_12 : decode prog_70_method_2_code 12 = .ok (.bipush 10, 2) := by decide +kernel
theorem d3_14 : decode prog_70_method_2_code 14 = .ok (.if_icmp .ne 41, 3) := by decide +kernel
theorem d3_17 : decode prog_70_method_2_code 17 = .ok (.iload_n 3, 1) := by decide +kernel
theorem d3_18 : decode prog_70_method_2_code 18 = .ok (.iload_n 2, 1) := by decide +kernel
theorem d3_19 : decode prog_70_method_2_code 19 = .ok (.isub, 1) := by decide +kernel
theorem d3_20 : decode prog_70_method_2_code 20 = .ok (.istore 4, 2) := by decide +kernel
theorem d3_22 : decode prog_70_method_2_code 22 = .ok (.iload_n 2, 1) := by decide +kernel
theorem d3_23 : decode prog_70_method_2_code 23 = .ok (.ifCond .le 28, 3) := by decide +kernel
theorem d3_26 : decode prog_70_method_2_code 26 = .ok (.iload 4, 2) := by decide +kernel
theorem d3_28 : decode prog_70_method_2_code 28 = .ok (.ifCond .eq 19, 3) := by decide +kernel
theorem d3_31 : decode prog_70_method_2_code 31 = .ok (.iload 4, 2) := by decide +kernel
theorem d3_33 : decode prog_70_method_2_code 33 = .ok (.iconst 1, 1) := by decide +kernel
theorem d3_34 : decode prog_70_method_2_code 34 = .ok (.if_icmp .ne 17, 3) := by decide +kernel
theorem d3_37 : decode prog_70_method_2_code 37 = .ok (.aload_n 0, 1) := by decide +kernel
theorem d3_38 : decode prog_70_method_2_code 38 = .ok (.iload_n 3, 1) := by decide +kernel
theorem d3_39 : decode prog_70_method_2_code 39 = .ok (.iconst 1, 1) := by decide +kernel
theorem d3_40 : decode prog_70_method_2_code 40 = .ok (.isub, 1) := by decide +kernel
theorem d3_41 : decode prog_70_method_2_code 41 = .ok (.baload, 1) := by decide +kernel
theorem d3_42 : decode prog_70_method_2_code 42 = .ok (.bipush 13, 2) := by decide +kernel
theorem d3_44 : decode prog_70_method_2_code 44 = .ok (.if_icmp .ne 7, 3) := by decide +kernel
theorem d3_47 : decode prog_70_method_2_code 47 = .ok (.iload_n 3, 1) := by decide +kernel
theorem d3_48 : decode prog_70_method_2_code 48 = .ok (.iconst 1, 1) := by decide +kernel
theorem d3_49 : decode prog_70_method_2_code 49 = .ok (.iadd, 1) := by decide +kernel
theorem d3_50 : decode prog_70_method_2_code 50 = .ok (.ireturn, 1) := by decide +kernel
theorem d3_51 : decode prog_70_method_2_code 51 = .ok (.iload_n 3, 1) := by decide +kernel
theorem d3_52 : decode prog_70_method_2_code 52 = .ok (.iconst 1, 1) := by decide +kernel
theorem d3_53 : decode prog_70_method_2_code 53 = .ok (.iadd, 1) := by decide +kernel
theorem d3_54 : decode prog_70_method_2_code 54 = .ok (.istore_n 2, 1) := by decide +kernel
theorem d3_55 : decode prog_70_method_2_code 55 = .ok (.iinc 3 1, 3) := by decide +kernel
theorem d3_58 : decode prog_70_method_2_code 58 = .ok (.goto (-54), 3) := by decide +kernel
theorem d3_61 : decode prog_70_method_2_code 61 = .ok (.iconst (-1), 1) := by decide +kernel
theorem d3_62 : decode prog_70_method_2_code 62 = .ok (.ireturn, 1) := by decide +kernel
theorem pn_3 : plainName "pithline/io/HttpResponse" = true := by first | (simp [plainName, overriddenIn]; done) | decide +kernel
theorem ef_3 (m : MethodId) (a1 : Addr) (p2 : Int32) : entryFrame m #[(.ref a1), (.int p2)] 5 = mkF m 0 #[rv a1, iv p2, .unset, .unset, .unset] [] := by first | (simp [entryFrame, mkF, argsToLocals, Value.category]; done) | rfl
def hl (vs : List Int32) (p2 : Int32) : Nat → Int32 → Int32 → Int32
  | 0, _, _ => (-1 : Int32)
  | k + 1, i, ls => (if i < p2 then (if (vs.getD (i).toNatClampNeg 0) = (10 : Int32) then (if (0 : Int32) < ls then (if (i - ls) = (0 : Int32) then (i + (1 : Int32)) else (if (i - ls) = (1 : Int32) then (if (vs.getD ((i - (1 : Int32))).toNatClampNeg 0) = (13 : Int32) then (i + (1 : Int32)) else (hl vs p2 k (i + (1 : Int32)) (i + (1 : Int32)))) else (hl vs p2 k (i + (1 : Int32)) (i + (1 : Int32))))) else (hl vs p2 k (i + (1 : Int32)) (i + (1 : Int32)))) else (hl vs p2 k (i + (1 : Int32)) ls)) else (-1 : Int32))
def f3 (p2 : Int32) (vs : List Int32) : Int32 := (hl vs p2 7 (0 : Int32) (0 : Int32))
set_option maxRecDepth 65536 in
set_option maxHeartbeats 40000000 in
theorem rm3 (l : Launch) (Z : State) (a0 : Array Value) (hw : ∀ d ∈ tables_1, d.before a0 Z = true) (ws : List Jvm.Cond) (a1 : Addr) (p2 : Int32) (ka : ClassId) (vs : List Int32) (h0 : Heap) (n0 : Nat) (Z0 : n0 ≤ h0.size) (V_a1 : Arv Z h0 a1 ka .byte (6 : Int32) (vs.map Value.int) (.int (0 : Int32))) (hlen : p2.toInt ≤ 6) :
    MetFree l (⟨"pithline/io/HttpResponse", "headLength", "([BI)I"⟩ : MethodName) (head1 (Jvm.Cond.code (⟨"pithline/io/HttpResponse", "headLength", "([BI)I"⟩ : MethodName) prog_70_method_2_code 5 (some .int) :: ws) ({ frames := 0, cells := 0, slots := 0, locals := 0 } : Room)) (fun a U => a = #[(.ref a1), (.int p2)] ∧ Z.Warmed39 U.vm ∧ U.heap = h0) (fun _ _ _ _ _ => True) (fun _ U o U' => ∃ v L, o = .returned v ∧ QI (f3 p2 vs) h0 n0 v U'.heap L ∧ FrameEnd U o U' L ({ frames := 0, cells := 0, slots := 0, locals := 0 } : Room).cells ({ frames := 0, cells := 0, slots := 0, locals := 0 } : Room).slots) := by
  refine MetFree.of_bodySF (plainFor_of_name pn_3) hisR ?_
  intro p e s m args below meth c s₁ Bd hml0 hP hK
  obtain ⟨rfl, hZ, hh⟩ := hP
  have hx := Bd.exec
  have hby := Bd.bytes
  have hml : c.maxLocals = 5 := hml0
  have hown : s.vm.findClass "pithline/io/HttpResponse" = some m.cls := findClass_of_methodNamed Bd.named
  have hnm := (name_of_methodNamed Bd.named Bd.method).1
  have X0 : Stand p l e ({ frames := 0, cells := 0, slots := 0, locals := 0 } : Room) s m #[(.ref a1), (.int p2)] below meth c s₁ [] 0 0 := Stand.of_body Bd
  have e0 : s₁.heap = h0 := by rw [← hh, Bd.state]; rfl
  have N0 := Fr.nil n0
  obtain ⟨B, hB, pre0⟩ : ∃ B : State → Prop, (∀ t, B t → Steps p.tables e below (s₁.setTop (entryFrame m #[(.ref a1), (.int p2)] 5)) t) ∧ ∀ t, SS p e below m s₁ 0 #[rv a1, iv p2, .unset, .unset, .unset] [] t → B t := ⟨_, fun _ q => q, fun t kk => castTop (ef_3 m a1 p2) kk⟩
  have pre1 : ∀ t, SS p e below m s₁ 4 #[rv a1, iv p2, iv (0 : Int32), iv (0 : Int32), .unset] [] t → B t := fun t kk => pre0 t (by
    show SS p e below m s₁ 0 #[rv a1, iv p2, .unset, .unset, .unset] [] _
    refine XS.iconst X0.here hx rfl (hb hby d3_0) ?_
    show SS p e below m s₁ 1 #[rv a1, iv p2, .unset, .unset, .unset] [(.int (0 : Int32))] _
    refine XS.istoreN X0.here hx rfl (hb hby d3_1) rfl (l' := #[rv a1, iv p2, iv (0 : Int32), .unset, .unset]) rfl ?_
    show SS p e below m s₁ 2 #[rv a1, iv p2, iv (0 : Int32), .unset, .unset] [] _
    refine XS.iconst X0.here hx rfl (hb hby d3_2) ?_
    show SS p e below m s₁ 3 #[rv a1, iv p2, iv (0 : Int32), .unset, .unset] [(.int (0 : Int32))] _
    refine XS.istoreN X0.here hx rfl (hb hby d3_3) rfl (l' := #[rv a1, iv p2, iv (0 : Int32), iv (0 : Int32), .unset]) rfl ?_
    show SS p e below m s₁ 4 #[rv a1, iv p2, iv (0 : Int32), iv (0 : Int32), .unset] [] _
    exact kk)
  have loop : ∀ (k : Nat) (i ls : Int32) (s4 : Slot), One s4 → (0 ≤ i.toInt ∧ i.toInt ≤ 6 ∧ i.toInt + k = 7) →
      ∃ (pc : Nat) (Ls : Array Slot), decode c.code pc = .ok (.ireturn, 1) ∧ ∀ t, Steps p.tables e below (s₁.setTop (mkF m pc Ls [(.int (hl vs p2 k i ls))])) t → Steps p.tables e below (s₁.setTop (mkF m 4 #[.val (.ref a1), .val (.int p2), .val (.int ls), .val (.int i), s4] [])) t := by
    intro k
    induction k with
    | zero => intro i ls s4 h4 hk; omega
    | succ k ih =>
      intro i ls s4 h4 hk
      have preL : ∀ t, Steps p.tables e below (s₁.setTop (mkF m 4 #[.val (.ref a1), .val (.int p2), .val (.int ls), .val (.int i), s4] [])) t → Steps p.tables e below (s₁.setTop (mkF m 4 #[.val (.ref a1), .val (.int p2), .val (.int ls), .val (.int i), s4] [])) t := fun t kk => kk
      have pre2 : ∀ t, SS p e below m s₁ 6 #[rv a1, iv p2, iv ls, iv i, s4] [(.int p2), (.int i)] t → Steps p.tables e below (s₁.setTop (mkF m 4 #[.val (.ref a1), .val (.int p2), .val (.int ls), .val (.int i), s4] [])) t := fun t kk => preL t (by
        show SS p e below m s₁ 4 #[rv a1, iv p2, iv ls, iv i, s4] [] _
        refine XS.iloadN X0.here hx rfl (hb hby d3_4) rfl ?_
        show SS p e below m s₁ 5 #[rv a1, iv p2, iv ls, iv i, s4] [(.int i)] _
        refine XS.iloadN X0.here hx rfl (hb hby d3_5) rfl ?_
        show SS p e below m s₁ 6 #[rv a1, iv p2, iv ls, iv i, s4] [(.int p2), (.int i)] _
        exact kk)
      by_cases hc3 : i < p2
      · have pre4 : ∀ t, SS p e below m s₁ 11 #[rv a1, iv p2, iv ls, iv i, s4] [(.int i), (.ref a1)] t → Steps p.tables e below (s₁.setTop (mkF m 4 #[.val (.ref a1), .val (.int p2), .val (.int ls), .val (.int i), s4] [])) t := fun t kk => pre2 t (by
          refine XS.icmpNo X0.here hx rfl (hb hby d3_6) rfl (tlt hc3).2.1 ?_
          show SS p e below m s₁ 9 #[rv a1, iv p2, iv ls, iv i, s4] [] _
          refine XS.aloadN X0.here hx rfl (hb hby d3_9) rfl rfl ?_
          show SS p e below m s₁ 10 #[rv a1, iv p2, iv ls, iv i, s4] [(.ref a1)] _
          refine XS.iloadN X0.here hx rfl (hb hby d3_10) rfl ?_
          show SS p e below m s₁ 11 #[rv a1, iv p2, iv ls, iv i, s4] [(.int i), (.ref a1)] _
          exact kk)
        obtain ⟨cl5, Ar5, -, S5, -, H5, -⟩ := id V_a1
        have hin5 : ¬ (i < 0 ∨ cl5.slots.size ≤ (i).toNatClampNeg) := inb_of S5 (own_in6 i (by
          have := c_isub i ls
          have := rng32 ls
          have := rng32 (i - ls)
          have := own_lt hc3
          have L0 : (0 : Int32).toInt = 0 := by decide
          have L1 : (1 : Int32).toInt = 1 := by decide
          have L2 : (2 : Int32).toInt = 2 := by decide
          have L6 : (6 : Int32).toInt = 6 := by decide
          omega))
        have hat5 : cl5.slots[(i).toNatClampNeg]? = some (.int (vs.getD (i).toNatClampNeg 0)) := by
          rw [H5 _ (Nat.lt_of_not_le fun q => hin5 (Or.inr q))]; exact congrArg some (own_getD vs _ 0)
        have pre6 : ∀ t, SS p e below m s₁ 14 #[rv a1, iv p2, iv ls, iv i, s4] [(.int (10 : Int32)), (.int (vs.getD (i).toNatClampNeg 0))] t → Steps p.tables e below (s₁.setTop (mkF m 4 #[.val (.ref a1), .val (.int p2), .val (.int ls), .val (.int i), s4] [])) t := fun t kk => pre4 t (by
          refine X0.baloadBytes hx (j := i) (v := (.int (vs.getD (i).toNatClampNeg 0))) (by rw [e0]; exact Ar5.1) (State.isArrayOf_alike hZ.alike Ar5.2.1) Ar5.2.2 hin5 hat5 (g := (mkF m 11 #[rv a1, iv p2, iv ls, iv i, s4] [(.int i), (.ref a1)])) rfl rfl (hb hby d3_11) _ ?_
          show SS p e below m s₁ 12 #[rv a1, iv p2, iv ls, iv i, s4] [(.int (vs.getD (i).toNatClampNeg 0))] _
          refine XS.bipush X0.here hx rfl (hb hby d3_12) ?_
          show SS p e below m s₁ 14 #[rv a1, iv p2, iv ls, iv i, s4] [(.int (10 : Int32)), (.int (vs.getD (i).toNatClampNeg 0))] _
          exact kk)
        by_cases hc7 : (vs.getD (i).toNatClampNeg 0) = (10 : Int32)
        · have pre8 : ∀ t, SS p e below m s₁ 23 #[rv a1, iv p2, iv ls, iv i, iv (i - ls)] [(.int ls)] t → Steps p.tables e below (s₁.setTop (mkF m 4 #[.val (.ref a1), .val (.int p2), .val (.int ls), .val (.int i), s4] [])) t := fun t kk => pre6 t (by
            refine XS.icmpNo X0.here hx rfl (hb hby d3_14) rfl (teq hc7).2 ?_
            show SS p e below m s₁ 17 #[rv a1, iv p2, iv ls, iv i, s4] [] _
            refine XS.iloadN X0.here hx rfl (hb hby d3_17) rfl ?_
            show SS p e below m s₁ 18 #[rv a1, iv p2, iv ls, iv i, s4] [(.int i)] _
            refine XS.iloadN X0.here hx rfl (hb hby d3_18) rfl ?_
            show SS p e below m s₁ 19 #[rv a1, iv p2, iv ls, iv i, s4] [(.int ls), (.int i)] _
            refine XS.isub X0.here hx rfl (hb hby d3_19) rfl ?_
            show SS p e below m s₁ 20 #[rv a1, iv p2, iv ls, iv i, s4] [(.int (i - ls))] _
            refine XS.istore X0.here hx rfl (hb hby d3_20) rfl (l' := #[rv a1, iv p2, iv ls, iv i, iv (i - ls)]) (own_os h4) ?_
            show SS p e below m s₁ 22 #[rv a1, iv p2, iv ls, iv i, iv (i - ls)] [] _
            refine XS.iloadN X0.here hx rfl (hb hby d3_22) rfl ?_
            show SS p e below m s₁ 23 #[rv a1, iv p2, iv ls, iv i, iv (i - ls)] [(.int ls)] _
            exact kk)
          by_cases hc9 : (0 : Int32) < ls
          · have pre10 : ∀ t, SS p e below m s₁ 28 #[rv a1, iv p2, iv ls, iv i, iv (i - ls)] [(.int (i - ls))] t → Steps p.tables e below (s₁.setTop (mkF m 4 #[.val (.ref a1), .val (.int p2), .val (.int ls), .val (.int i), s4] [])) t := fun t kk => pre8 t (by
              refine XS.ifNo X0.here hx rfl (hb hby d3_23) rfl ((if0 _ _).trans (tlt hc9).2.2.2) ?_
              show SS p e below m s₁ 26 #[rv a1, iv p2, iv ls, iv i, iv (i - ls)] [] _
              refine XS.iload X0.here hx rfl (hb hby d3_26) rfl ?_
              show SS p e below m s₁ 28 #[rv a1, iv p2, iv ls, iv i, iv (i - ls)] [(.int (i - ls))] _
              exact kk)
            by_cases hc11 : (i - ls) = (0 : Int32)
            · have pre12 : ∀ t, SS p e below m s₁ 50 #[rv a1, iv p2, iv ls, iv i, iv (i - ls)] [(.int (i + (1 : Int32)))] t → Steps p.tables e below (s₁.setTop (mkF m 4 #[.val (.ref a1), .val (.int p2), .val (.int ls), .val (.int i), s4] [])) t := fun t kk => pre10 t (by
                refine XS.ifYes X0.here hx rfl (pc0 := 28) (pc' := 47) rfl (hb hby d3_28) rfl ((if0 _ _).trans (teq hc11).1) (by decide) (by decide) ?_
                show SS p e below m s₁ 47 #[rv a1, iv p2, iv ls, iv i, iv (i - ls)] [] _
                refine XS.iloadN X0.here hx rfl (hb hby d3_47) rfl ?_
                show SS p e below m s₁ 48 #[rv a1, iv p2, iv ls, iv i, iv (i - ls)] [(.int i)] _
                refine XS.iconst X0.here hx rfl (hb hby d3_48) ?_
                show SS p e below m s₁ 49 #[rv a1, iv p2, iv ls, iv i, iv (i - ls)] [(.int (1 : Int32)), (.int i)] _
                refine XS.iadd X0.here hx rfl (hb hby d3_49) rfl ?_
                show SS p e below m s₁ 50 #[rv a1, iv p2, iv ls, iv i, iv (i - ls)] [(.int (i + (1 : Int32)))] _
                exact kk)
              exact ⟨50, _, (hb hby d3_50), fun t kk => pre12 t (by rw [show hl vs p2 (k + 1) i ls = (i + (1 : Int32)) from by rw [hl, if_pos hc3, if_pos hc7, if_pos hc9, if_pos hc11]] at kk; exact kk)⟩
            · have pre13 : ∀ t, SS p e below m s₁ 34 #[rv a1, iv p2, iv ls, iv i, iv (i - ls)] [(.int (1 : Int32)), (.int (i - ls))] t → Steps p.tables e below (s₁.setTop (mkF m 4 #[.val (.ref a1), .val (.int p2), .val (.int ls), .val (.int i), s4] [])) t := fun t kk => pre10 t (by
                refine XS.ifNo X0.here hx rfl (hb hby d3_28) rfl ((if0 _ _).trans (feq hc11).1) ?_
                show SS p e below m s₁ 31 #[rv a1, iv p2, iv ls, iv i, iv (i - ls)] [] _
                refine XS.iload X0.here hx rfl (hb hby d3_31) rfl ?_
                show SS p e below m s₁ 33 #[rv a1, iv p2, iv ls, iv i, iv (i - ls)] [(.int (i - ls))] _
                refine XS.iconst X0.here hx rfl (hb hby d3_33) ?_
                show SS p e below m s₁ 34 #[rv a1, iv p2, iv ls, iv i, iv (i - ls)] [(.int (1 : Int32)), (.int (i - ls))] _
                exact kk)
              by_cases hc14 : (i - ls) = (1 : Int32)
              · have pre15 : ∀ t, SS p e below m s₁ 41 #[rv a1, iv p2, iv ls, iv i, iv (i - ls)] [(.int (i - (1 : Int32))), (.ref a1)] t → Steps p.tables e below (s₁.setTop (mkF m 4 #[.val (.ref a1), .val (.int p2), .val (.int ls), .val (.int i), s4] [])) t := fun t kk => pre13 t (by
                  refine XS.icmpNo X0.here hx rfl (hb hby d3_34) rfl (teq hc14).2 ?_
                  show SS p e below m s₁ 37 #[rv a1, iv p2, iv ls, iv i, iv (i - ls)] [] _
                  refine XS.aloadN X0.here hx rfl (hb hby d3_37) rfl rfl ?_
                  show SS p e below m s₁ 38 #[rv a1, iv p2, iv ls, iv i, iv (i - ls)] [(.ref a1)] _
                  refine XS.iloadN X0.here hx rfl (hb hby d3_38) rfl ?_
                  show SS p e below m s₁ 39 #[rv a1, iv p2, iv ls, iv i, iv (i - ls)] [(.int i), (.ref a1)] _
                  refine XS.iconst X0.here hx rfl (hb hby d3_39) ?_
                  show SS p e below m s₁ 40 #[rv a1, iv p2, iv ls, iv i, iv (i - ls)] [(.int (1 : Int32)), (.int i), (.ref a1)] _
                  refine XS.isub X0.here hx rfl (hb hby d3_40) rfl ?_
                  show SS p e below m s₁ 41 #[rv a1, iv p2, iv ls, iv i, iv (i - ls)] [(.int (i - (1 : Int32))), (.ref a1)] _
                  exact kk)
                obtain ⟨cl16, Ar16, -, S16, -, H16, -⟩ := id V_a1
                have hin16 : ¬ ((i - (1 : Int32)) < 0 ∨ cl16.slots.size ≤ ((i - (1 : Int32))).toNatClampNeg) := inb_of S16 (own_in6 (i - (1 : Int32)) (by
                  have := congrArg Int32.toInt hc14
                  have := c_isub i ls
                  have := rng32 ls
                  have := rng32 (i - ls)
                  have := own_lt hc3
                  have := own_lt hc9
                  have L0 : (0 : Int32).toInt = 0 := by decide
                  have L1 : (1 : Int32).toInt = 1 := by decide
                  have L2 : (2 : Int32).toInt = 2 := by decide
                  have L6 : (6 : Int32).toInt = 6 := by decide
                  have := own_sub i (1 : Int32) 1 (by decide) (by decide) (by omega)
                  omega))
                have hat16 : cl16.slots[((i - (1 : Int32))).toNatClampNeg]? = some (.int (vs.getD ((i - (1 : Int32))).toNatClampNeg 0)) := by
                  rw [H16 _ (Nat.lt_of_not_le fun q => hin16 (Or.inr q))]; exact congrArg some (own_getD vs _ 0)
                have pre17 : ∀ t, SS p e below m s₁ 44 #[rv a1, iv p2, iv ls, iv i, iv (i - ls)] [(.int (13 : Int32)), (.int (vs.getD ((i - (1 : Int32))).toNatClampNeg 0))] t → Steps p.tables e below (s₁.setTop (mkF m 4 #[.val (.ref a1), .val (.int p2), .val (.int ls), .val (.int i), s4] [])) t := fun t kk => pre15 t (by
                  refine X0.baloadBytes hx (j := (i - (1 : Int32))) (v := (.int (vs.getD ((i - (1 : Int32))).toNatClampNeg 0))) (by rw [e0]; exact Ar16.1) (State.isArrayOf_alike hZ.alike Ar16.2.1) Ar16.2.2 hin16 hat16 (g := (mkF m 41 #[rv a1, iv p2, iv ls, iv i, iv (i - ls)] [(.int (i - (1 : Int32))), (.ref a1)])) rfl rfl (hb hby d3_41) _ ?_
                  show SS p e below m s₁ 42 #[rv a1, iv p2, iv ls, iv i, iv (i - ls)] [(.int (vs.getD ((i - (1 : Int32))).toNatClampNeg 0))] _
                  refine XS.bipush X0.here hx rfl (hb hby d3_42) ?_
                  show SS p e below m s₁ 44 #[rv a1, iv p2, iv ls, iv i, iv (i - ls)] [(.int (13 : Int32)), (.int (vs.getD ((i - (1 : Int32))).toNatClampNeg 0))] _
                  exact kk)
                by_cases hc18 : (vs.getD ((i - (1 : Int32))).toNatClampNeg 0) = (13 : Int32)
                · have pre19 : ∀ t, SS p e below m s₁ 50 #[rv a1, iv p2, iv ls, iv i, iv (i - ls)] [(.int (i + (1 : Int32)))] t → Steps p.tables e below (s₁.setTop (mkF m 4 #[.val (.ref a1), .val (.int p2), .val (.int ls), .val (.int i), s4] [])) t := fun t kk => pre17 t (by
                    refine XS.icmpNo X0.here hx rfl (hb hby d3_44) rfl (teq hc18).2 ?_
                    show SS p e below m s₁ 47 #[rv a1, iv p2, iv ls, iv i, iv (i - ls)] [] _
                    refine XS.iloadN X0.here hx rfl (hb hby d3_47) rfl ?_
                    show SS p e below m s₁ 48 #[rv a1, iv p2, iv ls, iv i, iv (i - ls)] [(.int i)] _
                    refine XS.iconst X0.here hx rfl (hb hby d3_48) ?_
                    show SS p e below m s₁ 49 #[rv a1, iv p2, iv ls, iv i, iv (i - ls)] [(.int (1 : Int32)), (.int i)] _
                    refine XS.iadd X0.here hx rfl (hb hby d3_49) rfl ?_
                    show SS p e below m s₁ 50 #[rv a1, iv p2, iv ls, iv i, iv (i - ls)] [(.int (i + (1 : Int32)))] _
                    exact kk)
                  exact ⟨50, _, (hb hby d3_50), fun t kk => pre19 t (by rw [show hl vs p2 (k + 1) i ls = (i + (1 : Int32)) from by rw [hl, if_pos hc3, if_pos hc7, if_pos hc9, if_neg hc11, if_pos hc14, if_pos hc18]] at kk; exact kk)⟩
                · have pre20 : ∀ t, SS p e below m s₁ 4 #[rv a1, iv p2, iv (i + (1 : Int32)), iv (i + (1 : Int32)), iv (i - ls)] [] t → Steps p.tables e below (s₁.setTop (mkF m 4 #[.val (.ref a1), .val (.int p2), .val (.int ls), .val (.int i), s4] [])) t := fun t kk => pre17 t (by
                    refine XS.icmpYes X0.here hx rfl (pc0 := 44) (pc' := 51) rfl (hb hby d3_44) rfl (feq hc18).2 (by decide) (by decide) ?_
                    show SS p e below m s₁ 51 #[rv a1, iv p2, iv ls, iv i, iv (i - ls)] [] _
                    refine XS.iloadN X0.here hx rfl (hb hby d3_51) rfl ?_
                    show SS p e below m s₁ 52 #[rv a1, iv p2, iv ls, iv i, iv (i - ls)] [(.int i)] _
                    refine XS.iconst X0.here hx rfl (hb hby d3_52) ?_
                    show SS p e below m s₁ 53 #[rv a1, iv p2, iv ls, iv i, iv (i - ls)] [(.int (1 : Int32)), (.int i)] _
                    refine XS.iadd X0.here hx rfl (hb hby d3_53) rfl ?_
                    show SS p e below m s₁ 54 #[rv a1, iv p2, iv ls, iv i, iv (i - ls)] [(.int (i + (1 : Int32)))] _
                    refine XS.istoreN X0.here hx rfl (hb hby d3_54) rfl (l' := #[rv a1, iv p2, iv (i + (1 : Int32)), iv i, iv (i - ls)]) rfl ?_
                    show SS p e below m s₁ 55 #[rv a1, iv p2, iv (i + (1 : Int32)), iv i, iv (i - ls)] [] _
                    refine XS.iinc X0.here hx rfl (hb hby d3_55) rfl (l' := #[rv a1, iv p2, iv (i + (1 : Int32)), iv (i + (1 : Int32)), iv (i - ls)]) rfl ?_
                    show SS p e below m s₁ 58 #[rv a1, iv p2, iv (i + (1 : Int32)), iv (i + (1 : Int32)), iv (i - ls)] [] _
                    refine XS.goto X0.here hx rfl (pc0 := 58) (pc' := 4) rfl (hb hby d3_58) (by decide) (by decide) ?_
                    show SS p e below m s₁ 4 #[rv a1, iv p2, iv (i + (1 : Int32)), iv (i + (1 : Int32)), iv (i - ls)] [] _
                    exact kk)
                  obtain ⟨pcR, LsR, hdR, hkR⟩ := ih (i + (1 : Int32)) (i + (1 : Int32)) (iv (i - ls)) (One.val rfl) (by
                    have := own_lt hc3
                    have := own_lt hc9
                    have L0 : (0 : Int32).toInt = 0 := by decide
                    have L1 : (1 : Int32).toInt = 1 := by decide
                    have L2 : (2 : Int32).toInt = 2 := by decide
                    have L6 : (6 : Int32).toInt = 6 := by decide
                    have := own_inc i (by omega)
                    omega)
                  exact ⟨pcR, LsR, hdR, fun t kk => pre20 t (hkR t (by rw [show hl vs p2 (k + 1) i ls = hl vs p2 k (i + (1 : Int32)) (i + (1 : Int32)) from by rw [hl, if_pos hc3, if_pos hc7, if_pos hc9, if_neg hc11, if_pos hc14, if_neg hc18]] at kk; exact kk))⟩
              · have pre21 : ∀ t, SS p e below m s₁ 4 #[rv a1, iv p2, iv (i + (1 : Int32)), iv (i + (1 : Int32)), iv (i - ls)] [] t → Steps p.tables e below (s₁.setTop (mkF m 4 #[.val (.ref a1), .val (.int p2), .val (.int ls), .val (.int i), s4] [])) t := fun t kk => pre13 t (by
                  refine XS.icmpYes X0.here hx rfl (pc0 := 34) (pc' := 51) rfl (hb hby d3_34) rfl (feq hc14).2 (by decide) (by decide) ?_
                  show SS p e below m s₁ 51 #[rv a1, iv p2, iv ls, iv i, iv (i - ls)] [] _
                  refine XS.iloadN X0.here hx rfl (hb hby d3_51) rfl ?_
                  show SS p e below m s₁ 52 #[rv a1, iv p2, iv ls, iv i, iv (i - ls)] [(.int i)] _
                  refine XS.iconst X0.here hx rfl (hb hby d3_52) ?_
                  show SS p e below m s₁ 53 #[rv a1, iv p2, iv ls, iv i, iv (i - ls)] [(.int (1 : Int32)), (.int i)] _
                  refine XS.iadd X0.here hx rfl (hb hby d3_53) rfl ?_
                  show SS p e below m s₁ 54 #[rv a1, iv p2, iv ls, iv i, iv (i - ls)] [(.int (i + (1 : Int32)))] _
                  refine XS.istoreN X0.here hx rfl (hb hby d3_54) rfl (l' := #[rv a1, iv p2, iv (i + (1 : Int32)), iv i, iv (i - ls)]) rfl ?_
                  show SS p e below m s₁ 55 #[rv a1, iv p2, iv (i + (1 : Int32)), iv i, iv (i - ls)] [] _
                  refine XS.iinc X0.here hx rfl (hb hby d3_55) rfl (l' := #[rv a1, iv p2, iv (i + (1 : Int32)), iv (i + (1 : Int32)), iv (i - ls)]) rfl ?_
                  show SS p e below m s₁ 58 #[rv a1, iv p2, iv (i + (1 : Int32)), iv (i + (1 : Int32)), iv (i - ls)] [] _
                  refine XS.goto X0.here hx rfl (pc0 := 58) (pc' := 4) rfl (hb hby d3_58) (by decide) (by decide) ?_
                  show SS p e below m s₁ 4 #[rv a1, iv p2, iv (i + (1 : Int32)), iv (i + (1 : Int32)), iv (i - ls)] [] _
                  exact kk)
                obtain ⟨pcR, LsR, hdR, hkR⟩ := ih (i + (1 : Int32)) (i + (1 : Int32)) (iv (i - ls)) (One.val rfl) (by
                  have := own_lt hc3
                  have := own_lt hc9
                  have L0 : (0 : Int32).toInt = 0 := by decide
                  have L1 : (1 : Int32).toInt = 1 := by decide
                  have L2 : (2 : Int32).toInt = 2 := by decide
                  have L6 : (6 : Int32).toInt = 6 := by decide
                  have := own_inc i (by omega)
                  omega)
                exact ⟨pcR, LsR, hdR, fun t kk => pre21 t (hkR t (by rw [show hl vs p2 (k + 1) i ls = hl vs p2 k (i + (1 : Int32)) (i + (1 : Int32)) from by rw [hl, if_pos hc3, if_pos hc7, if_pos hc9, if_neg hc11, if_neg hc14]] at kk; exact kk))⟩
          · have pre22 : ∀ t, SS p e below m s₁ 4 #[rv a1, iv p2, iv (i + (1 : Int32)), iv (i + (1 : Int32)), iv (i - ls)] [] t → Steps p.tables e below (s₁.setTop (mkF m 4 #[.val (.ref a1), .val (.int p2), .val (.int ls), .val (.int i), s4] [])) t := fun t kk => pre8 t (by
              refine XS.ifYes X0.here hx rfl (pc0 := 23) (pc' := 51) rfl (hb hby d3_23) rfl ((if0 _ _).trans (flt hc9).2.2.2) (by decide) (by decide) ?_
              show SS p e below m s₁ 51 #[rv a1, iv p2, iv ls, iv i, iv (i - ls)] [] _
              refine XS.iloadN X0.here hx rfl (hb hby d3_51) rfl ?_
              show SS p e below m s₁ 52 #[rv a1, iv p2, iv ls, iv i, iv (i - ls)] [(.int i)] _
              refine XS.iconst X0.here hx rfl (hb hby d3_52) ?_
              show SS p e below m s₁ 53 #[rv a1, iv p2, iv ls, iv i, iv (i - ls)] [(.int (1 : Int32)), (.int i)] _
              refine XS.iadd X0.here hx rfl (hb hby d3_53) rfl ?_
              show SS p e below m s₁ 54 #[rv a1, iv p2, iv ls, iv i, iv (i - ls)] [(.int (i + (1 : Int32)))] _
              refine XS.istoreN X0.here hx rfl (hb hby d3_54) rfl (l' := #[rv a1, iv p2, iv (i + (1 : Int32)), iv i, iv (i - ls)]) rfl ?_
              show SS p e below m s₁ 55 #[rv a1, iv p2, iv (i + (1 : Int32)), iv i, iv (i - ls)] [] _
              refine XS.iinc X0.here hx rfl (hb hby d3_55) rfl (l' := #[rv a1, iv p2, iv (i + (1 : Int32)), iv (i + (1 : Int32)), iv (i - ls)]) rfl ?_
              show SS p e below m s₁ 58 #[rv a1, iv p2, iv (i + (1 : Int32)), iv (i + (1 : Int32)), iv (i - ls)] [] _
              refine XS.goto X0.here hx rfl (pc0 := 58) (pc' := 4) rfl (hb hby d3_58) (by decide) (by decide) ?_
              show SS p e below m s₁ 4 #[rv a1, iv p2, iv (i + (1 : Int32)), iv (i + (1 : Int32)), iv (i - ls)] [] _
              exact kk)
            obtain ⟨pcR, LsR, hdR, hkR⟩ := ih (i + (1 : Int32)) (i + (1 : Int32)) (iv (i - ls)) (One.val rfl) (by
              have := own_lt hc3
              have := own_nl hc9
              have L0 : (0 : Int32).toInt = 0 := by decide
              have L1 : (1 : Int32).toInt = 1 := by decide
              have L2 : (2 : Int32).toInt = 2 := by decide
              have L6 : (6 : Int32).toInt = 6 := by decide
              have := own_inc i (by omega)
              omega)
            exact ⟨pcR, LsR, hdR, fun t kk => pre22 t (hkR t (by rw [show hl vs p2 (k + 1) i ls = hl vs p2 k (i + (1 : Int32)) (i + (1 : Int32)) from by rw [hl, if_pos hc3, if_pos hc7, if_neg hc9]] at kk; exact kk))⟩
        · have pre23 : ∀ t, SS p e below m s₁ 4 #[rv a1, iv p2, iv ls, iv (i + (1 : Int32)), s4] [] t → Steps p.tables e below (s₁.setTop (mkF m 4 #[.val (.ref a1), .val (.int p2), .val (.int ls), .val (.int i), s4] [])) t := fun t kk => pre6 t (by
            refine XS.icmpYes X0.here hx rfl (pc0 := 14) (pc' := 55) rfl (hb hby d3_14) rfl (feq hc7).2 (by decide) (by decide) ?_
            show SS p e below m s₁ 55 #[rv a1, iv p2, iv ls, iv i, s4] [] _
            refine XS.iinc X0.here hx rfl (hb hby d3_55) rfl (l' := #[rv a1, iv p2, iv ls, iv (i + (1 : Int32)), s4]) rfl ?_
            show SS p e below m s₁ 58 #[rv a1, iv p2, iv ls, iv (i + (1 : Int32)), s4] [] _
            refine XS.goto X0.here hx rfl (pc0 := 58) (pc' := 4) rfl (hb hby d3_58) (by decide) (by decide) ?_
            show SS p e below m s₁ 4 #[rv a1, iv p2, iv ls, iv (i + (1 : Int32)), s4] [] _
            exact kk)
          obtain ⟨pcR, LsR, hdR, hkR⟩ := ih (i + (1 : Int32)) ls s4 h4 (by
            have := own_lt hc3
            have L0 : (0 : Int32).toInt = 0 := by decide
            have L1 : (1 : Int32).toInt = 1 := by decide
            have L2 : (2 : Int32).toInt = 2 := by decide
            have L6 : (6 : Int32).toInt = 6 := by decide
            have := own_inc i (by omega)
            omega)
          exact ⟨pcR, LsR, hdR, fun t kk => pre23 t (hkR t (by rw [show hl vs p2 (k + 1) i ls = hl vs p2 k (i + (1 : Int32)) ls from by rw [hl, if_pos hc3, if_neg hc7]] at kk; exact kk))⟩
      · have pre24 : ∀ t, SS p e below m s₁ 62 #[rv a1, iv p2, iv ls, iv i, s4] [(.int (-1 : Int32))] t → Steps p.tables e below (s₁.setTop (mkF m 4 #[.val (.ref a1), .val (.int p2), .val (.int ls), .val (.int i), s4] [])) t := fun t kk => pre2 t (by
          refine XS.icmpYes X0.here hx rfl (pc0 := 6) (pc' := 61) rfl (hb hby d3_6) rfl (flt hc3).2.1 (by decide) (by decide) ?_
          show SS p e below m s₁ 61 #[rv a1, iv p2, iv ls, iv i, s4] [] _
          refine XS.iconst X0.here hx rfl (hb hby d3_61) ?_
          show SS p e below m s₁ 62 #[rv a1, iv p2, iv ls, iv i, s4] [(.int (-1 : Int32))] _
          exact kk)
        exact ⟨62, _, (hb hby d3_62), fun t kk => pre24 t (by rw [show hl vs p2 (k + 1) i ls = (-1 : Int32) from by rw [hl, if_neg hc3]] at kk; exact kk)⟩
  obtain ⟨pcR, LsR, hdR, hkR⟩ := loop 7 (0 : Int32) (0 : Int32) .unset One.u (by decide)
  obtain ⟨fs, hr, hrun, hended, hW, hsame⟩ := X0.leave (v := some (.int (hl vs p2 7 (0 : Int32) (0 : Int32)))) (fun h => by rw [Bd.returns] at h; cases h)
  refine ⟨_, _, hB _ (pre1 _ (hkR _ ?_)), hrun, hended, _, _, rfl, ?_, ⟨_, rfl⟩, hW, hsame.mono (by decide) (by decide)⟩
  · exact retI X0 hx Bd.returns hdR hr
  · exact ⟨rfl, N0, e0⟩
def own_ch (vs : List Int32) (ln : Int32) : Nat → Int32 → Int32
  | 0, _ => (-1 : Int32)
  | k + 1, i => if f2 ln i vs = (0 : Int32) then own_ch vs ln k (i + (1 : Int32)) else i + (1 : Int32)
theorem own_e0 (ln i : Int32) (vs : List Int32) (h : ¬ i < ln) : f2 ln i vs = (0 : Int32) := by
  unfold f2
  rw [if_neg h]
theorem own_ch0 (vs : List Int32) (ln : Int32) : ∀ (k : Nat) (i : Int32), ln.toInt ≤ i.toInt → i.toInt + k ≤ 7 → own_ch vs ln k i = (-1 : Int32) := by
  intro k
  induction k with
  | zero => intro i _ _; rfl
  | succ k ih =>
    intro i h1 h2
    have e := own_inc i (by omega)
    rw [own_ch, if_pos (own_e0 ln i vs (by rw [Int32.lt_iff_toInt_lt]; omega))]
    exact ih _ (by omega) (by omega)
theorem own_main (vs : List Int32) (ln : Int32) (h6 : ln.toInt ≤ 6) : ∀ (k : Nat) (i ls : Int32), 0 ≤ ls.toInt → ls.toInt ≤ i.toInt → i.toInt + k = 7 →
    (0 < ls.toInt → (vs.getD ((ls - (1 : Int32))).toNatClampNeg 0) = (10 : Int32)) → (∀ j : Int32, ls.toInt ≤ j.toInt → j.toInt < i.toInt → ¬ (vs.getD (j).toNatClampNeg 0) = (10 : Int32)) → hl vs ln k i ls = own_ch vs ln k i := by
  intro k
  induction k with
  | zero => intro i ls _ _ _ _ _; rfl
  | succ k ih =>
    intro i ls h0 h1 hk hA hB
    have L0 : (0 : Int32).toInt = 0 := by decide
    have L1 : (1 : Int32).toInt = 1 := by decide
    have L2 : (2 : Int32).toInt = 2 := by decide
    have ei := own_inc i (by omega)
    have es := own_sub i ls ls.toInt rfl h0 h1
    rw [hl, own_ch]
    by_cases c1 : i < ln
    · have d1 := own_lt c1
      rw [if_pos c1]
      by_cases c2 : (vs.getD (i).toNatClampNeg 0) = (10 : Int32)
      · rw [if_pos c2]
        have stepN : hl vs ln k (i + (1 : Int32)) (i + (1 : Int32)) = own_ch vs ln k (i + (1 : Int32)) := by
          refine ih _ _ (by omega) (by omega) (by omega) (fun _ => ?_) (fun j a b => by omega)
          have q : i + (1 : Int32) - (1 : Int32) = i := by
            have := own_sub (i + (1 : Int32)) (1 : Int32) 1 (by decide) (by decide) (by omega)
            exact Int32.toInt_inj.1 (by omega)
          rw [q]; exact c2
        by_cases c3 : (0 : Int32) < ls
        · have d3 := own_lt c3
          have l1 : ¬ i < (1 : Int32) := by rw [Int32.lt_iff_toInt_lt]; omega
          have s1 := own_sub i (1 : Int32) 1 (by decide) (by decide) (by omega)
          rw [if_pos c3]
          by_cases c4 : (i - ls) = (0 : Int32)
          · rw [if_pos c4]
            have q : i = ls := by
              rw [← Int32.toInt_inj] at c4
              exact Int32.toInt_inj.1 (by omega)
            have e : f2 ln i vs = (1 : Int32) := by
              unfold f2
              rw [if_pos c1, if_pos c2, if_neg l1, if_pos (by rw [q]; exact hA (by omega))]
            rw [if_neg (by rw [e]; decide)]
          · rw [if_neg c4]
            have d4 : (i - ls).toInt ≠ 0 := fun z => c4 (Int32.toInt_inj.1 (by omega))
            by_cases c5 : (i - ls) = (1 : Int32)
            · rw [if_pos c5]
              have d5 : (i - ls).toInt = 1 := by rw [c5]; exact L1
              have l2 : ¬ i < (2 : Int32) := by rw [Int32.lt_iff_toInt_lt]; omega
              have s2 := own_sub i (2 : Int32) 2 (by decide) (by decide) (by omega)
              have s3 := own_sub ls (1 : Int32) 1 (by decide) (by decide) (by omega)
              have n1 : ¬ (vs.getD ((i - (1 : Int32))).toNatClampNeg 0) = (10 : Int32) := hB _ (by omega) (by omega)
              have n2 : (vs.getD ((i - (2 : Int32))).toNatClampNeg 0) = (10 : Int32) := by
                have q : i - (2 : Int32) = ls - (1 : Int32) := Int32.toInt_inj.1 (by omega)
                rw [q]; exact hA (by omega)
              by_cases c6 : (vs.getD ((i - (1 : Int32))).toNatClampNeg 0) = (13 : Int32)
              · have e : f2 ln i vs = (1 : Int32) := by
                  unfold f2
                  rw [if_pos c1, if_pos c2, if_neg l1, if_neg n1, if_neg l2, if_pos c6, if_pos n2]
                rw [if_pos c6, if_neg (by rw [e]; decide)]
              · have e : f2 ln i vs = (0 : Int32) := by
                  unfold f2
                  rw [if_pos c1, if_pos c2, if_neg l1, if_neg n1, if_neg l2, if_neg c6]
                rw [if_neg c6, if_pos e, stepN]
            · have d5 : (i - ls).toInt ≠ 1 := fun z => c5 (Int32.toInt_inj.1 (by omega))
              have l2 : ¬ i < (2 : Int32) := by rw [Int32.lt_iff_toInt_lt]; omega
              have s2 := own_sub i (2 : Int32) 2 (by decide) (by decide) (by omega)
              have n1 : ¬ (vs.getD ((i - (1 : Int32))).toNatClampNeg 0) = (10 : Int32) := hB _ (by omega) (by omega)
              have n2 : ¬ (vs.getD ((i - (2 : Int32))).toNatClampNeg 0) = (10 : Int32) := hB _ (by omega) (by omega)
              have e : f2 ln i vs = (0 : Int32) := by
                unfold f2
                rw [if_pos c1, if_pos c2, if_neg l1, if_neg n1, if_neg l2, if_neg n2]
                split <;> rfl
              rw [if_neg c5, if_pos e, stepN]
        · have d3 := own_nl c3
          have e : f2 ln i vs = (0 : Int32) := by
            unfold f2
            rw [if_pos c1, if_pos c2]
            by_cases l1 : i < (1 : Int32)
            · have := own_lt l1
              rw [if_pos l1, if_pos (by rw [Int32.lt_iff_toInt_lt]; omega)]
            · have := own_nl l1
              have s1 := own_sub i (1 : Int32) 1 (by decide) (by decide) (by omega)
              have n1 : ¬ (vs.getD ((i - (1 : Int32))).toNatClampNeg 0) = (10 : Int32) := hB _ (by omega) (by omega)
              rw [if_neg l1, if_neg n1]
              by_cases l2 : i < (2 : Int32)
              · rw [if_pos l2]
              · have := own_nl l2
                have s2 := own_sub i (2 : Int32) 2 (by decide) (by decide) (by omega)
                have n2 : ¬ (vs.getD ((i - (2 : Int32))).toNatClampNeg 0) = (10 : Int32) := hB _ (by omega) (by omega)
                rw [if_neg l2, if_neg n2]
                split <;> rfl
          rw [if_neg c3, if_pos e, stepN]
      · have e : f2 ln i vs = (0 : Int32) := by
          unfold f2
          rw [if_pos c1, if_neg c2]
        rw [if_neg c2, if_pos e]
        refine ih _ _ h0 (by omega) (by omega) hA (fun j a b => ?_)
        by_cases q : j.toInt < i.toInt
        · exact hB j a q
        · have q' : j = i := Int32.toInt_inj.1 (by omega)
          rw [q']; exact c2
    · rw [if_neg c1, if_pos (own_e0 ln i vs c1)]
      have := own_nl c1
      exact (own_ch0 vs ln k _ (by omega) (by omega)).symm
theorem own_fin (ln : Int32) (vs : List Int32) (h6 : ln.toInt ≤ 6) : f3 ln vs = (if f2 ln (0 : Int32) vs = (0 : Int32) then (if f2 ln (1 : Int32) vs = (0 : Int32) then (if f2 ln (2 : Int32) vs = (0 : Int32) then (if f2 ln (3 : Int32) vs = (0 : Int32) then (if f2 ln (4 : Int32) vs = (0 : Int32) then (if f2 ln (5 : Int32) vs = (0 : Int32) then (-1 : Int32) else (6 : Int32)) else (5 : Int32)) else (4 : Int32)) else (3 : Int32)) else (2 : Int32)) else (1 : Int32)) := by
  have e6 : f2 ln (6 : Int32) vs = (0 : Int32) := own_e0 _ _ _ (by rw [Int32.lt_iff_toInt_lt, show (6 : Int32).toInt = 6 from by decide]; omega)
  unfold f3
  rw [own_main vs ln h6 7 (0 : Int32) (0 : Int32) (by decide) (by decide) (by decide) (fun h => absurd h (by decide)) (fun j a b => by rw [show (0 : Int32).toInt = 0 from by decide] at a b; omega)]
  rw [own_ch, own_ch, own_ch, own_ch, own_ch, own_ch, own_ch]
  rw [show (0 : Int32) + (1 : Int32) = (1 : Int32) from by decide, show (1 : Int32) + (1 : Int32) = (2 : Int32) from by decide, show (2 : Int32) + (1 : Int32) = (3 : Int32) from by decide, show (3 : Int32) + (1 : Int32) = (4 : Int32) from by decide, show (4 : Int32) + (1 : Int32) = (5 : Int32) from by decide, show (5 : Int32) + (1 : Int32) = (6 : Int32) from by decide, if_pos e6]
  rfl

theorem pn_0 : plainName "pithline/io/HttpResponseHeadLengthPinLaw" = true := by first | (simp [plainName, overriddenIn]; done) | decide +kernel
theorem pd_0 : parseMethodDescriptor "(I)B" = some ⟨[.int], some .byte⟩ := by decide +kernel
theorem pd_1 : parseMethodDescriptor "([BII)Z" = some ⟨[(.array .byte), .int, .int], some .boolean⟩ := by decide +kernel
theorem pd_2 : parseMethodDescriptor "([BI)I" = some ⟨[(.array .byte), .int], some .int⟩ := by decide +kernel
theorem ef_0 (m : MethodId) (p1 : Int32) (p2 : Int32) (p3 : Int32) (p4 : Int32) : entryFrame m #[(.int p1), (.int p2), (.int p3), (.int p4)] maxLocals = mkF m 0 #[iv p1, iv p2, iv p3, iv p4, .unset, .unset, .unset] [] := by first | (simp [entryFrame, mkF, argsToLocals, Value.category, maxLocals]; done) | rfl
set_option maxRecDepth 65536 in
set_option maxHeartbeats 40000000 in
theorem rm0 (l : Launch) (Z : State) (a0 : Array Value) (hw : ∀ d ∈ tables_1, d.before a0 Z = true) (ws : List Jvm.Cond) (p1 : Int32) (p2 : Int32) (p3 : Int32) (p4 : Int32)  (h0 : Heap) (n0 : Nat) (Z0 : n0 ≤ h0.size)  :
    MetFree l x (head1 (Jvm.Cond.code x code maxLocals ret :: ws) room_1) (fun a U => a = #[(.int p1), (.int p2), (.int p3), (.int p4)] ∧ Z.Warmed39 U.vm ∧ U.heap = h0) (fun _ _ _ _ _ => True) (fun _ U o U' => ∃ v L, o = .returned v ∧ QE n0 v U'.heap L ∧ FrameEnd U o U' L room_1.cells room_1.slots) := by
  refine MetFree.of_bodySF (plainFor_of_name pn_0) hisR ?_
  intro p e s m args below meth c s₁ Bd hml0 hP hK
  obtain ⟨rfl, hZ, hh⟩ := hP
  have hx := Bd.exec
  have hby := Bd.bytes
  have hml : c.maxLocals = 7 := hml0
  have hown : s.vm.findClass "pithline/io/HttpResponseHeadLengthPinLaw" = some m.cls := findClass_of_methodNamed Bd.named
  have hnm := (name_of_methodNamed Bd.named Bd.method).1
  have X0 : Stand p l e room_1 s m #[(.int p1), (.int p2), (.int p3), (.int p4)] below meth c s₁ [] 0 0 := Stand.of_body Bd
  have e0 : s₁.heap = h0 := by rw [← hh, Bd.state]; rfl
  have N0 := Fr.nil n0
  obtain ⟨B, hB, pre0⟩ : ∃ B : State → Prop, (∀ t, B t → Steps p.tables e below (s₁.setTop (entryFrame m #[(.int p1), (.int p2), (.int p3), (.int p4)] maxLocals)) t) ∧ ∀ t, SS p e below m s₁ 0 #[iv p1, iv p2, iv p3, iv p4, .unset, .unset, .unset] [] t → B t := ⟨_, fun _ q => q, fun t kk => castTop (ef_0 m p1 p2 p3 p4) kk⟩
  have pre1 : ∀ t, SS p e below m s₁ 2 #[iv p1, iv p2, iv p3, iv p4, .unset, .unset, .unset] [(.int (6 : Int32))] t → B t := fun t kk => pre0 t (by
    show SS p e below m s₁ 0 #[iv p1, iv p2, iv p3, iv p4, .unset, .unset, .unset] [] _
    refine XS.bipush X0.here hx rfl (hb hby at_0) ?_
    show SS p e below m s₁ 2 #[iv p1, iv p2, iv p3, iv p4, .unset, .unset, .unset] [(.int (6 : Int32))] _
    exact kk)
  obtain ⟨T2, h2, k2, X2, e2, E2, A2, st2⟩ := newP X0 hx hZ (hw _ (List.mem_of_getElem? (i := 0) rfl)) e0 (g := (mkF m 2 #[iv p1, iv p2, iv p3, iv p4, .unset, .unset, .unset] [(.int (6 : Int32))])) rfl (hb hby at_2) rfl (by decide) (cap := 6) (by decide) (by decide) (by decide) (by decide)
  obtain ⟨b2, g2⟩ : ∃ z, z = h0.size := ⟨_, rfl⟩
  rw [← g2] at A2 st2
  have V2 : Arv Z h2 b2 k2 .byte (6 : Int32) [(.int (0 : Int32)), (.int (0 : Int32)), (.int (0 : Int32)), (.int (0 : Int32)), (.int (0 : Int32)), (.int (0 : Int32))] (.int (0 : Int32)) := (Arv.new A2 (by decide)).pad (pad_rep [] (.int (0 : Int32)) 6)
  have g_b2 : n0 ≤ b2 := Nat.le_trans Z0 (Nat.le_of_eq g2.symm)
  have Z2 : n0 ≤ h2.size := Nat.le_trans Z0 E2.1
  have pre3 : ∀ t, SS p e below m T2 10 #[iv p1, iv p2, iv p3, iv p4, rv b2, .unset, .unset] [(.int p1), (.int (0 : Int32)), (.ref b2)] t → B t := fun t kk => pre1 t (by
    refine st2 _ ?_
    show SS p e below m T2 4 #[iv p1, iv p2, iv p3, iv p4, .unset, .unset, .unset] [(.ref b2)] _
    refine XS.astore X2.here hx rfl (hb hby at_4) rfl rfl (l' := #[iv p1, iv p2, iv p3, iv p4, rv b2, .unset, .unset]) rfl ?_
    show SS p e below m T2 6 #[iv p1, iv p2, iv p3, iv p4, rv b2, .unset, .unset] [] _
    refine XS.aload X2.here hx rfl (hb hby at_6) rfl rfl ?_
    show SS p e below m T2 8 #[iv p1, iv p2, iv p3, iv p4, rv b2, .unset, .unset] [(.ref b2)] _
    refine XS.iconst X2.here hx rfl (hb hby at_8) ?_
    show SS p e below m T2 9 #[iv p1, iv p2, iv p3, iv p4, rv b2, .unset, .unset] [(.int (0 : Int32)), (.ref b2)] _
    refine XS.iloadN X2.here hx rfl (hb hby at_9) rfl ?_
    show SS p e below m T2 10 #[iv p1, iv p2, iv p3, iv p4, rv b2, .unset, .unset] [(.int p1), (.int (0 : Int32)), (.ref b2)] _
    exact kk)
  obtain ⟨_, _, ⟨T4, L4, k4, n4⟩, -, X4, ⟨Lc4, hQ4, l4, y4, z4⟩, st4⟩ := Jvm.LawKit.callS X2 hx (y := (⟨"pithline/io/HttpResponseHeadLengthPinLaw", "pick", "(I)B"⟩ : MethodName)) hown (mvT hZ (hw _ (List.mem_of_getElem? (i := 1) rfl))) (mvT hZ (hw _ (List.mem_of_getElem? (i := 2) rfl))) (mvT hZ (hw _ (List.mem_of_getElem? (i := 3) rfl))) (mvT hZ (hw _ (List.mem_of_getElem? (i := 4) rfl))) (by decide) (backOf (W := 2) (rm1 l Z a0 hw [] p1 h2 n0 Z2 ) hZ (hw _ (List.mem_of_getElem? (i := 4) rfl)) (hw _ (List.mem_of_getElem? (i := 3) rfl)) (by decide) (by decide)) (g := (mkF m 10 #[iv p1, iv p2, iv p3, iv p4, rv b2, .unset, .unset] [(.int p1), (.int (0 : Int32)), (.ref b2)])) rfl (by rw [hml]; rfl) (argsL := [(.int p1)]) (rest := [(.int (0 : Int32)), (.ref b2)]) (lenOf pd_0 rfl) rfl (by show 2 * 0 + _ ≤ _; exact Nat.le_of_eq rfl) (hb hby at_10) (fun _ _ => ⟨rfl, e2, (by decide : 1 + 0 ≤ _), (by decide : 6 + 0 ≤ _)⟩)
  dsimp only [Pt.U, Pt.locs, Pt.cells, Pt.slots] at X4 l4 y4 z4 st4 hQ4
  subst l4 y4 z4
  obtain ⟨rfl, N4q, e4⟩ := hQ4
  have N4 := Fr.app N0 N4q
  have pre6 : ∀ t, SS p e below m T4 13 #[iv p1, iv p2, iv p3, iv p4, rv b2, .unset, .unset] [(.int (f1 p1)), (.int (0 : Int32)), (.ref b2)] t → B t := fun t kk => pre3 t (by
    refine st4 _ ?_
    show SS p e below m T4 13 #[iv p1, iv p2, iv p3, iv p4, rv b2, .unset, .unset] [(.int (f1 p1)), (.int (0 : Int32)), (.ref b2)] _
    exact kk)
  obtain ⟨v5, g_v5⟩ : ∃ z, z = (f1 p1) := ⟨_, rfl⟩
  rw [← g_v5] at pre6
  obtain ⟨cl7, Ar7, q7, S7, M7, H7, G7⟩ := V2
  have hin7 : ¬ ((0 : Int32) < 0 ∨ cl7.slots.size ≤ ((0 : Int32)).toNatClampNeg) := inb_of S7 ⟨by decide, by decide⟩
  obtain ⟨T7, h7, X7, e7, W7, st7⟩ := stB X4 hx hZ e4 Ar7 (j := (0 : Int32)) hin7 (g := (mkF m 13 #[iv p1, iv p2, iv p3, iv p4, rv b2, .unset, .unset] [(.int v5), (.int (0 : Int32)), (.ref b2)])) rfl rfl (hb hby at_13)
  have V7 := Arv.set Ar7 q7 S7 M7 H7 G7 (fits_nar_byte _) W7 0 rfl (Nat.le_of_ble_eq_true rfl)
  have V7' : Arv Z h7 b2 k2 .byte (6 : Int32) [(.int (nar .byte v5)), (.int (0 : Int32)), (.int (0 : Int32)), (.int (0 : Int32)), (.int (0 : Int32)), (.int (0 : Int32))] (.int (0 : Int32)) := V7
  have N7 := Fr.snoc X7 N4 g_b2
  have Z7 : n0 ≤ h7.size := Nat.le_trans Z2 (Keep.of_wr W7).1
  have pre8 : ∀ t, SS p e below m T7 21 #[iv p1, iv p2, iv p3, iv p4, rv b2, .unset, .unset] [(.int (p1 >>> ((16 : Int32) &&& 31))), (.int (1 : Int32)), (.ref b2)] t → B t := fun t kk => pre6 t (by
    refine st7 _ ?_
    show SS p e below m T7 14 #[iv p1, iv p2, iv p3, iv p4, rv b2, .unset, .unset] [] _
    refine XS.aload X7.here hx rfl (hb hby at_14) rfl rfl ?_
    show SS p e below m T7 16 #[iv p1, iv p2, iv p3, iv p4, rv b2, .unset, .unset] [(.ref b2)] _
    refine XS.iconst X7.here hx rfl (hb hby at_16) ?_
    show SS p e below m T7 17 #[iv p1, iv p2, iv p3, iv p4, rv b2, .unset, .unset] [(.int (1 : Int32)), (.ref b2)] _
    refine XS.iloadN X7.here hx rfl (hb hby at_17) rfl ?_
    show SS p e below m T7 18 #[iv p1, iv p2, iv p3, iv p4, rv b2, .unset, .unset] [(.int p1), (.int (1 : Int32)), (.ref b2)] _
    refine XS.bipush X7.here hx rfl (hb hby at_18) ?_
    show SS p e below m T7 20 #[iv p1, iv p2, iv p3, iv p4, rv b2, .unset, .unset] [(.int (16 : Int32)), (.int p1), (.int (1 : Int32)), (.ref b2)] _
    refine XS.ishr X7.here hx rfl (hb hby at_20) rfl ?_
    show SS p e below m T7 21 #[iv p1, iv p2, iv p3, iv p4, rv b2, .unset, .unset] [(.int (p1 >>> ((16 : Int32) &&& 31))), (.int (1 : Int32)), (.ref b2)] _
    exact kk)
  obtain ⟨_, _, ⟨T9, L9, k9, n9⟩, -, X9, ⟨Lc9, hQ9, l9, y9, z9⟩, st9⟩ := Jvm.LawKit.callS X7 hx (y := (⟨"pithline/io/HttpResponseHeadLengthPinLaw", "pick", "(I)B"⟩ : MethodName)) hown (mvT hZ (hw _ (List.mem_of_getElem? (i := 1) rfl))) (mvT hZ (hw _ (List.mem_of_getElem? (i := 2) rfl))) (mvT hZ (hw _ (List.mem_of_getElem? (i := 3) rfl))) (mvT hZ (hw _ (List.mem_of_getElem? (i := 4) rfl))) (by decide) (backOf (W := 2) (rm1 l Z a0 hw [] (p1 >>> ((16 : Int32) &&& 31)) h7 n0 Z7 ) hZ (hw _ (List.mem_of_getElem? (i := 4) rfl)) (hw _ (List.mem_of_getElem? (i := 3) rfl)) (by decide) (by decide)) (g := (mkF m 21 #[iv p1, iv p2, iv p3, iv p4, rv b2, .unset, .unset] [(.int (p1 >>> ((16 : Int32) &&& 31))), (.int (1 : Int32)), (.ref b2)])) rfl (by rw [hml]; rfl) (argsL := [(.int (p1 >>> ((16 : Int32) &&& 31)))]) (rest := [(.int (1 : Int32)), (.ref b2)]) (lenOf pd_0 rfl) rfl (by show 2 * 0 + _ ≤ _; exact Nat.le_of_eq rfl) (hb hby at_21) (fun _ _ => ⟨rfl, e7, (by decide : 1 + 0 ≤ _), (by decide : 6 + 0 ≤ _)⟩)
  dsimp only [Pt.U, Pt.locs, Pt.cells, Pt.slots] at X9 l9 y9 z9 st9 hQ9
  subst l9 y9 z9
  obtain ⟨rfl, N9q, e9⟩ := hQ9
  have N9 := Fr.app N7 N9q
  have pre11 : ∀ t, SS p e below m T9 24 #[iv p1, iv p2, iv p3, iv p4, rv b2, .unset, .unset] [(.int (f1 (p1 >>> ((16 : Int32) &&& 31)))), (.int (1 : Int32)), (.ref b2)] t → B t := fun t kk => pre8 t (by
    refine st9 _ ?_
    show SS p e below m T9 24 #[iv p1, iv p2, iv p3, iv p4, rv b2, .unset, .unset] [(.int (f1 (p1 >>> ((16 : Int32) &&& 31)))), (.int (1 : Int32)), (.ref b2)] _
    exact kk)
  obtain ⟨v10, g_v10⟩ : ∃ z, z = (f1 (p1 >>> ((16 : Int32) &&& 31))) := ⟨_, rfl⟩
  rw [← g_v10] at pre11
  obtain ⟨cl12, Ar12, q12, S12, M12, H12, G12⟩ := V7'
  have hin12 : ¬ ((1 : Int32) < 0 ∨ cl12.slots.size ≤ ((1 : Int32)).toNatClampNeg) := inb_of S12 ⟨by decide, by decide⟩
  obtain ⟨T12, h12, X12, e12, W12, st12⟩ := stB X9 hx hZ e9 Ar12 (j := (1 : Int32)) hin12 (g := (mkF m 24 #[iv p1, iv p2, iv p3, iv p4, rv b2, .unset, .unset] [(.int v10), (.int (1 : Int32)), (.ref b2)])) rfl rfl (hb hby at_24)
  have V12 := Arv.set Ar12 q12 S12 M12 H12 G12 (fits_nar_byte _) W12 1 rfl (Nat.le_of_ble_eq_true rfl)
  have V12' : Arv Z h12 b2 k2 .byte (6 : Int32) [(.int (nar .byte v5)), (.int (nar .byte v10)), (.int (0 : Int32)), (.int (0 : Int32)), (.int (0 : Int32)), (.int (0 : Int32))] (.int (0 : Int32)) := V12
  have N12 := Fr.snoc X12 N9 g_b2
  have Z12 : n0 ≤ h12.size := Nat.le_trans Z7 (Keep.of_wr W12).1
  have pre13 : ∀ t, SS p e below m T12 29 #[iv p1, iv p2, iv p3, iv p4, rv b2, .unset, .unset] [(.int p2), (.int (2 : Int32)), (.ref b2)] t → B t := fun t kk => pre11 t (by
    refine st12 _ ?_
    show SS p e below m T12 25 #[iv p1, iv p2, iv p3, iv p4, rv b2, .unset, .unset] [] _
    refine XS.aload X12.here hx rfl (hb hby at_25) rfl rfl ?_
    show SS p e below m T12 27 #[iv p1, iv p2, iv p3, iv p4, rv b2, .unset, .unset] [(.ref b2)] _
    refine XS.iconst X12.here hx rfl (hb hby at_27) ?_
    show SS p e below m T12 28 #[iv p1, iv p2, iv p3, iv p4, rv b2, .unset, .unset] [(.int (2 : Int32)), (.ref b2)] _
    refine XS.iloadN X12.here hx rfl (hb hby at_28) rfl ?_
    show SS p e below m T12 29 #[iv p1, iv p2, iv p3, iv p4, rv b2, .unset, .unset] [(.int p2), (.int (2 : Int32)), (.ref b2)] _
    exact kk)
  obtain ⟨_, _, ⟨T14, L14, k14, n14⟩, -, X14, ⟨Lc14, hQ14, l14, y14, z14⟩, st14⟩ := Jvm.LawKit.callS X12 hx (y := (⟨"pithline/io/HttpResponseHeadLengthPinLaw", "pick", "(I)B"⟩ : MethodName)) hown (mvT hZ (hw _ (List.mem_of_getElem? (i := 1) rfl))) (mvT hZ (hw _ (List.mem_of_getElem? (i := 2) rfl))) (mvT hZ (hw _ (List.mem_of_getElem? (i := 3) rfl))) (mvT hZ (hw _ (List.mem_of_getElem? (i := 4) rfl))) (by decide) (backOf (W := 2) (rm1 l Z a0 hw [] p2 h12 n0 Z12 ) hZ (hw _ (List.mem_of_getElem? (i := 4) rfl)) (hw _ (List.mem_of_getElem? (i := 3) rfl)) (by decide) (by decide)) (g := (mkF m 29 #[iv p1, iv p2, iv p3, iv p4, rv b2, .unset, .unset] [(.int p2), (.int (2 : Int32)), (.ref b2)])) rfl (by rw [hml]; rfl) (argsL := [(.int p2)]) (rest := [(.int (2 : Int32)), (.ref b2)]) (lenOf pd_0 rfl) rfl (by show 2 * 0 + _ ≤ _; exact Nat.le_of_eq rfl) (hb hby at_29) (fun _ _ => ⟨rfl, e12, (by decide : 1 + 0 ≤ _), (by decide : 6 + 0 ≤ _)⟩)
  dsimp only [Pt.U, Pt.locs, Pt.cells, Pt.slots] at X14 l14 y14 z14 st14 hQ14
  subst l14 y14 z14
  obtain ⟨rfl, N14q, e14⟩ := hQ14
  have N14 := Fr.app N12 N14q
  have pre16 : ∀ t, SS p e below m T14 32 #[iv p1, iv p2, iv p3, iv p4, rv b2, .unset, .unset] [(.int (f1 p2)), (.int (2 : Int32)), (.ref b2)] t → B t := fun t kk => pre13 t (by
    refine st14 _ ?_
    show SS p e below m T14 32 #[iv p1, iv p2, iv p3, iv p4, rv b2, .unset, .unset] [(.int (f1 p2)), (.int (2 : Int32)), (.ref b2)] _
    exact kk)
  obtain ⟨v15, g_v15⟩ : ∃ z, z = (f1 p2) := ⟨_, rfl⟩
  rw [← g_v15] at pre16
  obtain ⟨cl17, Ar17, q17, S17, M17, H17, G17⟩ := V12'
  have hin17 : ¬ ((2 : Int32) < 0 ∨ cl17.slots.size ≤ ((2 : Int32)).toNatClampNeg) := inb_of S17 ⟨by decide, by decide⟩
  obtain ⟨T17, h17, X17, e17, W17, st17⟩ := stB X14 hx hZ e14 Ar17 (j := (2 : Int32)) hin17 (g := (mkF m 32 #[iv p1, iv p2, iv p3, iv p4, rv b2, .unset, .unset] [(.int v15), (.int (2 : Int32)), (.ref b2)])) rfl rfl (hb hby at_32)
  have V17 := Arv.set Ar17 q17 S17 M17 H17 G17 (fits_nar_byte _) W17 2 rfl (Nat.le_of_ble_eq_true rfl)
  have V17' : Arv Z h17 b2 k2 .byte (6 : Int32) [(.int (nar .byte v5)), (.int (nar .byte v10)), (.int (nar .byte v15)), (.int (0 : Int32)), (.int (0 : Int32)), (.int (0 : Int32))] (.int (0 : Int32)) := V17
  have N17 := Fr.snoc X17 N14 g_b2
  have Z17 : n0 ≤ h17.size := Nat.le_trans Z12 (Keep.of_wr W17).1
  have pre18 : ∀ t, SS p e below m T17 40 #[iv p1, iv p2, iv p3, iv p4, rv b2, .unset, .unset] [(.int (p2 >>> ((16 : Int32) &&& 31))), (.int (3 : Int32)), (.ref b2)] t → B t := fun t kk => pre16 t (by
    refine st17 _ ?_
    show SS p e below m T17 33 #[iv p1, iv p2, iv p3, iv p4, rv b2, .unset, .unset] [] _
    refine XS.aload X17.here hx rfl (hb hby at_33) rfl rfl ?_
    show SS p e below m T17 35 #[iv p1, iv p2, iv p3, iv p4, rv b2, .unset, .unset] [(.ref b2)] _
    refine XS.iconst X17.here hx rfl (hb hby at_35) ?_
    show SS p e below m T17 36 #[iv p1, iv p2, iv p3, iv p4, rv b2, .unset, .unset] [(.int (3 : Int32)), (.ref b2)] _
    refine XS.iloadN X17.here hx rfl (hb hby at_36) rfl ?_
    show SS p e below m T17 37 #[iv p1, iv p2, iv p3, iv p4, rv b2, .unset, .unset] [(.int p2), (.int (3 : Int32)), (.ref b2)] _
    refine XS.bipush X17.here hx rfl (hb hby at_37) ?_
    show SS p e below m T17 39 #[iv p1, iv p2, iv p3, iv p4, rv b2, .unset, .unset] [(.int (16 : Int32)), (.int p2), (.int (3 : Int32)), (.ref b2)] _
    refine XS.ishr X17.here hx rfl (hb hby at_39) rfl ?_
    show SS p e below m T17 40 #[iv p1, iv p2, iv p3, iv p4, rv b2, .unset, .unset] [(.int (p2 >>> ((16 : Int32) &&& 31))), (.int (3 : Int32)), (.ref b2)] _
    exact kk)
  obtain ⟨_, _, ⟨T19, L19, k19, n19⟩, -, X19, ⟨Lc19, hQ19, l19, y19, z19⟩, st19⟩ := Jvm.LawKit.callS X17 hx (y := (⟨"pithline/io/HttpResponseHeadLengthPinLaw", "pick", "(I)B"⟩ : MethodName)) hown (mvT hZ (hw _ (List.mem_of_getElem? (i := 1) rfl))) (mvT hZ (hw _ (List.mem_of_getElem? (i := 2) rfl))) (mvT hZ (hw _ (List.mem_of_getElem? (i := 3) rfl))) (mvT hZ (hw _ (List.mem_of_getElem? (i := 4) rfl))) (by decide) (backOf (W := 2) (rm1 l Z a0 hw [] (p2 >>> ((16 : Int32) &&& 31)) h17 n0 Z17 ) hZ (hw _ (List.mem_of_getElem? (i := 4) rfl)) (hw _ (List.mem_of_getElem? (i := 3) rfl)) (by decide) (by decide)) (g := (mkF m 40 #[iv p1, iv p2, iv p3, iv p4, rv b2, .unset, .unset] [(.int (p2 >>> ((16 : Int32) &&& 31))), (.int (3 : Int32)), (.ref b2)])) rfl (by rw [hml]; rfl) (argsL := [(.int (p2 >>> ((16 : Int32) &&& 31)))]) (rest := [(.int (3 : Int32)), (.ref b2)]) (lenOf pd_0 rfl) rfl (by show 2 * 0 + _ ≤ _; exact Nat.le_of_eq rfl) (hb hby at_40) (fun _ _ => ⟨rfl, e17, (by decide : 1 + 0 ≤ _), (by decide : 6 + 0 ≤ _)⟩)
  dsimp only [Pt.U, Pt.locs, Pt.cells, Pt.slots] at X19 l19 y19 z19 st19 hQ19
  subst l19 y19 z19
  obtain ⟨rfl, N19q, e19⟩ := hQ19
  have N19 := Fr.app N17 N19q
  have pre21 : ∀ t, SS p e below m T19 43 #[iv p1, iv p2, iv p3, iv p4, rv b2, .unset, .unset] [(.int (f1 (p2 >>> ((16 : Int32) &&& 31)))), (.int (3 : Int32)), (.ref b2)] t → B t := fun t kk => pre18 t (by
    refine st19 _ ?_
    show SS p e below m T19 43 #[iv p1, iv p2, iv p3, iv p4, rv b2, .unset, .unset] [(.int (f1 (p2 >>> ((16 : Int32) &&& 31)))), (.int (3 : Int32)), (.ref b2)] _
    exact kk)
  obtain ⟨v20, g_v20⟩ : ∃ z, z = (f1 (p2 >>> ((16 : Int32) &&& 31))) := ⟨_, rfl⟩
  rw [← g_v20] at pre21
  obtain ⟨cl22, Ar22, q22, S22, M22, H22, G22⟩ := V17'
  have hin22 : ¬ ((3 : Int32) < 0 ∨ cl22.slots.size ≤ ((3 : Int32)).toNatClampNeg) := inb_of S22 ⟨by decide, by decide⟩
  obtain ⟨T22, h22, X22, e22, W22, st22⟩ := stB X19 hx hZ e19 Ar22 (j := (3 : Int32)) hin22 (g := (mkF m 43 #[iv p1, iv p2, iv p3, iv p4, rv b2, .unset, .unset] [(.int v20), (.int (3 : Int32)), (.ref b2)])) rfl rfl (hb hby at_43)
  have V22 := Arv.set Ar22 q22 S22 M22 H22 G22 (fits_nar_byte _) W22 3 rfl (Nat.le_of_ble_eq_true rfl)
  have V22' : Arv Z h22 b2 k2 .byte (6 : Int32) [(.int (nar .byte v5)), (.int (nar .byte v10)), (.int (nar .byte v15)), (.int (nar .byte v20)), (.int (0 : Int32)), (.int (0 : Int32))] (.int (0 : Int32)) := V22
  have N22 := Fr.snoc X22 N19 g_b2
  have Z22 : n0 ≤ h22.size := Nat.le_trans Z17 (Keep.of_wr W22).1
  have pre23 : ∀ t, SS p e below m T22 48 #[iv p1, iv p2, iv p3, iv p4, rv b2, .unset, .unset] [(.int p3), (.int (4 : Int32)), (.ref b2)] t → B t := fun t kk => pre21 t (by
    refine st22 _ ?_
    show SS p e below m T22 44 #[iv p1, iv p2, iv p3, iv p4, rv b2, .unset, .unset] [] _
    refine XS.aload X22.here hx rfl (hb hby at_44) rfl rfl ?_
    show SS p e below m T22 46 #[iv p1, iv p2, iv p3, iv p4, rv b2, .unset, .unset] [(.ref b2)] _
    refine XS.iconst X22.here hx rfl (hb hby at_46) ?_
    show SS p e below m T22 47 #[iv p1, iv p2, iv p3, iv p4, rv b2, .unset, .unset] [(.int (4 : Int32)), (.ref b2)] _
    refine XS.iloadN X22.here hx rfl (hb hby at_47) rfl ?_
    show SS p e below m T22 48 #[iv p1, iv p2, iv p3, iv p4, rv b2, .unset, .unset] [(.int p3), (.int (4 : Int32)), (.ref b2)] _
    exact kk)
  obtain ⟨_, _, ⟨T24, L24, k24, n24⟩, -, X24, ⟨Lc24, hQ24, l24, y24, z24⟩, st24⟩ := Jvm.LawKit.callS X22 hx (y := (⟨"pithline/io/HttpResponseHeadLengthPinLaw", "pick", "(I)B"⟩ : MethodName)) hown (mvT hZ (hw _ (List.mem_of_getElem? (i := 1) rfl))) (mvT hZ (hw _ (List.mem_of_getElem? (i := 2) rfl))) (mvT hZ (hw _ (List.mem_of_getElem? (i := 3) rfl))) (mvT hZ (hw _ (List.mem_of_getElem? (i := 4) rfl))) (by decide) (backOf (W := 2) (rm1 l Z a0 hw [] p3 h22 n0 Z22 ) hZ (hw _ (List.mem_of_getElem? (i := 4) rfl)) (hw _ (List.mem_of_getElem? (i := 3) rfl)) (by decide) (by decide)) (g := (mkF m 48 #[iv p1, iv p2, iv p3, iv p4, rv b2, .unset, .unset] [(.int p3), (.int (4 : Int32)), (.ref b2)])) rfl (by rw [hml]; rfl) (argsL := [(.int p3)]) (rest := [(.int (4 : Int32)), (.ref b2)]) (lenOf pd_0 rfl) rfl (by show 2 * 0 + _ ≤ _; exact Nat.le_of_eq rfl) (hb hby at_48) (fun _ _ => ⟨rfl, e22, (by decide : 1 + 0 ≤ _), (by decide : 6 + 0 ≤ _)⟩)
  dsimp only [Pt.U, Pt.locs, Pt.cells, Pt.slots] at X24 l24 y24 z24 st24 hQ24
  subst l24 y24 z24
  obtain ⟨rfl, N24q, e24⟩ := hQ24
  have N24 := Fr.app N22 N24q
  have pre26 : ∀ t, SS p e below m T24 51 #[iv p1, iv p2, iv p3, iv p4, rv b2, .unset, .unset] [(.int (f1 p3)), (.int (4 : Int32)), (.ref b2)] t → B t := fun t kk => pre23 t (by
    refine st24 _ ?_
    show SS p e below m T24 51 #[iv p1, iv p2, iv p3, iv p4, rv b2, .unset, .unset] [(.int (f1 p3)), (.int (4 : Int32)), (.ref b2)] _
    exact kk)
  obtain ⟨v25, g_v25⟩ : ∃ z, z = (f1 p3) := ⟨_, rfl⟩
  rw [← g_v25] at pre26
  obtain ⟨cl27, Ar27, q27, S27, M27, H27, G27⟩ := V22'
  have hin27 : ¬ ((4 : Int32) < 0 ∨ cl27.slots.size ≤ ((4 : Int32)).toNatClampNeg) := inb_of S27 ⟨by decide, by decide⟩
  obtain ⟨T27, h27, X27, e27, W27, st27⟩ := stB X24 hx hZ e24 Ar27 (j := (4 : Int32)) hin27 (g := (mkF m 51 #[iv p1, iv p2, iv p3, iv p4, rv b2, .unset, .unset] [(.int v25), (.int (4 : Int32)), (.ref b2)])) rfl rfl (hb hby at_51)
  have V27 := Arv.set Ar27 q27 S27 M27 H27 G27 (fits_nar_byte _) W27 4 rfl (Nat.le_of_ble_eq_true rfl)
  have V27' : Arv Z h27 b2 k2 .byte (6 : Int32) [(.int (nar .byte v5)), (.int (nar .byte v10)), (.int (nar .byte v15)), (.int (nar .byte v20)), (.int (nar .byte v25)), (.int (0 : Int32))] (.int (0 : Int32)) := V27
  have N27 := Fr.snoc X27 N24 g_b2
  have Z27 : n0 ≤ h27.size := Nat.le_trans Z22 (Keep.of_wr W27).1
  have pre28 : ∀ t, SS p e below m T27 59 #[iv p1, iv p2, iv p3, iv p4, rv b2, .unset, .unset] [(.int (p3 >>> ((16 : Int32) &&& 31))), (.int (5 : Int32)), (.ref b2)] t → B t := fun t kk => pre26 t (by
    refine st27 _ ?_
    show SS p e below m T27 52 #[iv p1, iv p2, iv p3, iv p4, rv b2, .unset, .unset] [] _
    refine XS.aload X27.here hx rfl (hb hby at_52) rfl rfl ?_
    show SS p e below m T27 54 #[iv p1, iv p2, iv p3, iv p4, rv b2, .unset, .unset] [(.ref b2)] _
    refine XS.iconst X27.here hx rfl (hb hby at_54) ?_
    show SS p e below m T27 55 #[iv p1, iv p2, iv p3, iv p4, rv b2, .unset, .unset] [(.int (5 : Int32)), (.ref b2)] _
    refine XS.iloadN X27.here hx rfl (hb hby at_55) rfl ?_
    show SS p e below m T27 56 #[iv p1, iv p2, iv p3, iv p4, rv b2, .unset, .unset] [(.int p3), (.int (5 : Int32)), (.ref b2)] _
    refine XS.bipush X27.here hx rfl (hb hby at_56) ?_
    show SS p e below m T27 58 #[iv p1, iv p2, iv p3, iv p4, rv b2, .unset, .unset] [(.int (16 : Int32)), (.int p3), (.int (5 : Int32)), (.ref b2)] _
    refine XS.ishr X27.here hx rfl (hb hby at_58) rfl ?_
    show SS p e below m T27 59 #[iv p1, iv p2, iv p3, iv p4, rv b2, .unset, .unset] [(.int (p3 >>> ((16 : Int32) &&& 31))), (.int (5 : Int32)), (.ref b2)] _
    exact kk)
  obtain ⟨_, _, ⟨T29, L29, k29, n29⟩, -, X29, ⟨Lc29, hQ29, l29, y29, z29⟩, st29⟩ := Jvm.LawKit.callS X27 hx (y := (⟨"pithline/io/HttpResponseHeadLengthPinLaw", "pick", "(I)B"⟩ : MethodName)) hown (mvT hZ (hw _ (List.mem_of_getElem? (i := 1) rfl))) (mvT hZ (hw _ (List.mem_of_getElem? (i := 2) rfl))) (mvT hZ (hw _ (List.mem_of_getElem? (i := 3) rfl))) (mvT hZ (hw _ (List.mem_of_getElem? (i := 4) rfl))) (by decide) (backOf (W := 2) (rm1 l Z a0 hw [] (p3 >>> ((16 : Int32) &&& 31)) h27 n0 Z27 ) hZ (hw _ (List.mem_of_getElem? (i := 4) rfl)) (hw _ (List.mem_of_getElem? (i := 3) rfl)) (by decide) (by decide)) (g := (mkF m 59 #[iv p1, iv p2, iv p3, iv p4, rv b2, .unset, .unset] [(.int (p3 >>> ((16 : Int32) &&& 31))), (.int (5 : Int32)), (.ref b2)])) rfl (by rw [hml]; rfl) (argsL := [(.int (p3 >>> ((16 : Int32) &&& 31)))]) (rest := [(.int (5 : Int32)), (.ref b2)]) (lenOf pd_0 rfl) rfl (by show 2 * 0 + _ ≤ _; exact Nat.le_of_eq rfl) (hb hby at_59) (fun _ _ => ⟨rfl, e27, (by decide : 1 + 0 ≤ _), (by decide : 6 + 0 ≤ _)⟩)
  dsimp only [Pt.U, Pt.locs, Pt.cells, Pt.slots] at X29 l29 y29 z29 st29 hQ29
  subst l29 y29 z29
  obtain ⟨rfl, N29q, e29⟩ := hQ29
  have N29 := Fr.app N27 N29q
  have pre31 : ∀ t, SS p e below m T29 62 #[iv p1, iv p2, iv p3, iv p4, rv b2, .unset, .unset] [(.int (f1 (p3 >>> ((16 : Int32) &&& 31)))), (.int (5 : Int32)), (.ref b2)] t → B t := fun t kk => pre28 t (by
    refine st29 _ ?_
    show SS p e below m T29 62 #[iv p1, iv p2, iv p3, iv p4, rv b2, .unset, .unset] [(.int (f1 (p3 >>> ((16 : Int32) &&& 31)))), (.int (5 : Int32)), (.ref b2)] _
    exact kk)
  obtain ⟨v30, g_v30⟩ : ∃ z, z = (f1 (p3 >>> ((16 : Int32) &&& 31))) := ⟨_, rfl⟩
  rw [← g_v30] at pre31
  obtain ⟨cl32, Ar32, q32, S32, M32, H32, G32⟩ := V27'
  have hin32 : ¬ ((5 : Int32) < 0 ∨ cl32.slots.size ≤ ((5 : Int32)).toNatClampNeg) := inb_of S32 ⟨by decide, by decide⟩
  obtain ⟨T32, h32, X32, e32, W32, st32⟩ := stB X29 hx hZ e29 Ar32 (j := (5 : Int32)) hin32 (g := (mkF m 62 #[iv p1, iv p2, iv p3, iv p4, rv b2, .unset, .unset] [(.int v30), (.int (5 : Int32)), (.ref b2)])) rfl rfl (hb hby at_62)
  have V32 := Arv.set Ar32 q32 S32 M32 H32 G32 (fits_nar_byte _) W32 5 rfl (Nat.le_of_ble_eq_true rfl)
  have V32' : Arv Z h32 b2 k2 .byte (6 : Int32) [(.int (nar .byte v5)), (.int (nar .byte v10)), (.int (nar .byte v15)), (.int (nar .byte v20)), (.int (nar .byte v25)), (.int (nar .byte v30))] (.int (0 : Int32)) := V32
  have N32 := Fr.snoc X32 N29 g_b2
  have Z32 : n0 ≤ h32.size := Nat.le_trans Z27 (Keep.of_wr W32).1
  have pre33 : ∀ t, SS p e below m T32 70 #[iv p1, iv p2, iv p3, iv p4, rv b2, .unset, .unset] [(.int ((p4 &&& (2147483647 : Int32)) % (7 : Int32)))] t → B t := fun t kk => pre31 t (by
    refine st32 _ ?_
    show SS p e below m T32 63 #[iv p1, iv p2, iv p3, iv p4, rv b2, .unset, .unset] [] _
    refine XS.iloadN X32.here hx rfl (hb hby at_63) rfl ?_
    show SS p e below m T32 64 #[iv p1, iv p2, iv p3, iv p4, rv b2, .unset, .unset] [(.int p4)] _
    refine X32.ldcInt hx hown (mvT hZ (hw _ (List.mem_of_getElem? (i := 5) rfl))) (g := (mkF m 64 #[iv p1, iv p2, iv p3, iv p4, rv b2, .unset, .unset] [(.int p4)])) rfl (hb hby at_64) _ ?_
    show SS p e below m T32 66 #[iv p1, iv p2, iv p3, iv p4, rv b2, .unset, .unset] [(.int (2147483647 : Int32)), (.int p4)] _
    refine XS.iand X32.here hx rfl (hb hby at_66) rfl ?_
    show SS p e below m T32 67 #[iv p1, iv p2, iv p3, iv p4, rv b2, .unset, .unset] [(.int (p4 &&& (2147483647 : Int32)))] _
    refine XS.bipush X32.here hx rfl (hb hby at_67) ?_
    show SS p e below m T32 69 #[iv p1, iv p2, iv p3, iv p4, rv b2, .unset, .unset] [(.int (7 : Int32)), (.int (p4 &&& (2147483647 : Int32)))] _
    refine iremM (g := (mkF m 69 #[iv p1, iv p2, iv p3, iv p4, rv b2, .unset, .unset] [(.int (7 : Int32)), (.int (p4 &&& (2147483647 : Int32)))])) X32 hx rfl (hb hby at_69) rfl (by decide) ?_
    show SS p e below m T32 70 #[iv p1, iv p2, iv p3, iv p4, rv b2, .unset, .unset] [(.int ((p4 &&& (2147483647 : Int32)) % (7 : Int32)))] _
    exact kk)
  obtain ⟨ln, g_ln⟩ : ∃ z, z = ((p4 &&& (2147483647 : Int32)) % (7 : Int32)) := ⟨_, rfl⟩
  rw [← g_ln] at pre33
  have hln : 0 ≤ ln.toInt ∧ ln.toInt ≤ 6 := by
    have m : (p4 &&& (2147483647 : Int32)).toInt = p4.toInt % 2147483648 := c_mask p4 2147483647 31 (by decide) (by decide)
    have r := (c_irem (p4 &&& (2147483647 : Int32)) (7 : Int32) 7 (by decide)).1 (by omega)
    rw [g_ln]; omega
  have pre34 : ∀ t, SS p e below m T32 77 #[iv p1, iv p2, iv p3, iv p4, rv b2, iv ln, .unset] [(.int (0 : Int32)), (.int ln), (.ref b2)] t → B t := fun t kk => pre33 t (by
    refine XS.istore X32.here hx rfl (hb hby at_70) rfl (l' := #[iv p1, iv p2, iv p3, iv p4, rv b2, iv ln, .unset]) rfl ?_
    show SS p e below m T32 72 #[iv p1, iv p2, iv p3, iv p4, rv b2, iv ln, .unset] [] _
    refine XS.aload X32.here hx rfl (hb hby at_72) rfl rfl ?_
    show SS p e below m T32 74 #[iv p1, iv p2, iv p3, iv p4, rv b2, iv ln, .unset] [(.ref b2)] _
    refine XS.iload X32.here hx rfl (hb hby at_74) rfl ?_
    show SS p e below m T32 76 #[iv p1, iv p2, iv p3, iv p4, rv b2, iv ln, .unset] [(.int ln), (.ref b2)] _
    refine XS.iconst X32.here hx rfl (hb hby at_76) ?_
    show SS p e below m T32 77 #[iv p1, iv p2, iv p3, iv p4, rv b2, iv ln, .unset] [(.int (0 : Int32)), (.int ln), (.ref b2)] _
    exact kk)
  obtain ⟨_, _, ⟨T35, L35, k35, n35⟩, -, X35, ⟨Lc35, hQ35, l35, y35, z35⟩, st35⟩ := Jvm.LawKit.callS X32 hx (y := (⟨"pithline/io/HttpResponseHeadLengthPinLaw", "ends", "([BII)Z"⟩ : MethodName)) hown (mvT hZ (hw _ (List.mem_of_getElem? (i := 6) rfl))) (mvT hZ (hw _ (List.mem_of_getElem? (i := 7) rfl))) (mvT hZ (hw _ (List.mem_of_getElem? (i := 3) rfl))) (mvT hZ (hw _ (List.mem_of_getElem? (i := 8) rfl))) (by decide) (backOf (W := 0) (rm2 l Z a0 hw [] b2 ln (0 : Int32) k2 [(nar .byte v5), (nar .byte v10), (nar .byte v15), (nar .byte v20), (nar .byte v25), (nar .byte v30)] h32 n0 Z32 V32' hln.2 (by decide)) hZ (hw _ (List.mem_of_getElem? (i := 8) rfl)) (hw _ (List.mem_of_getElem? (i := 3) rfl)) (by decide) (by decide)) (g := (mkF m 77 #[iv p1, iv p2, iv p3, iv p4, rv b2, iv ln, .unset] [(.int (0 : Int32)), (.int ln), (.ref b2)])) rfl (by rw [hml]; rfl) (argsL := [(.ref b2), (.int ln), (.int (0 : Int32))]) (rest := []) (lenOf pd_1 rfl) rfl (by show 2 * 0 + _ ≤ _; exact Nat.le_of_eq rfl) (hb hby at_77) (fun _ _ => ⟨rfl, e32, (by decide : 1 + 0 ≤ _), (by decide : 6 + 0 ≤ _)⟩)
  dsimp only [Pt.U, Pt.locs, Pt.cells, Pt.slots] at X35 l35 y35 z35 st35 hQ35
  subst l35 y35 z35
  obtain ⟨rfl, N35q, e35⟩ := hQ35
  have N35 := Fr.app N32 N35q
  have pre36 : ∀ t, SS p e below m T35 80 #[iv p1, iv p2, iv p3, iv p4, rv b2, iv ln, .unset] [(.int (f2 ln (0 : Int32) [(nar .byte v5), (nar .byte v10), (nar .byte v15), (nar .byte v20), (nar .byte v25), (nar .byte v30)]))] t → B t := fun t kk => pre34 t (by
    refine st35 _ ?_
    show SS p e below m T35 80 #[iv p1, iv p2, iv p3, iv p4, rv b2, iv ln, .unset] [(.int (f2 ln (0 : Int32) [(nar .byte v5), (nar .byte v10), (nar .byte v15), (nar .byte v20), (nar .byte v25), (nar .byte v30)]))] _
    exact kk)
  by_cases hc37 : (f2 ln (0 : Int32) [(nar .byte v5), (nar .byte v10), (nar .byte v15), (nar .byte v20), (nar .byte v25), (nar .byte v30)]) = (0 : Int32)
  · have pre38 : ∀ t, SS p e below m T35 94 #[iv p1, iv p2, iv p3, iv p4, rv b2, iv ln, .unset] [(.int (1 : Int32)), (.int ln), (.ref b2)] t → B t := fun t kk => pre36 t (by
      refine XS.ifYes X35.here hx rfl (pc0 := 80) (pc' := 89) rfl (hb hby at_80) rfl ((if0 _ _).trans (teq hc37).1) (by decide) (by decide) ?_
      show SS p e below m T35 89 #[iv p1, iv p2, iv p3, iv p4, rv b2, iv ln, .unset] [] _
      refine XS.aload X35.here hx rfl (hb hby at_89) rfl rfl ?_
      show SS p e below m T35 91 #[iv p1, iv p2, iv p3, iv p4, rv b2, iv ln, .unset] [(.ref b2)] _
      refine XS.iload X35.here hx rfl (hb hby at_91) rfl ?_
      show SS p e below m T35 93 #[iv p1, iv p2, iv p3, iv p4, rv b2, iv ln, .unset] [(.int ln), (.ref b2)] _
      refine XS.iconst X35.here hx rfl (hb hby at_93) ?_
      show SS p e below m T35 94 #[iv p1, iv p2, iv p3, iv p4, rv b2, iv ln, .unset] [(.int (1 : Int32)), (.int ln), (.ref b2)] _
      exact kk)
    obtain ⟨_, _, ⟨T39, L39, k39, n39⟩, -, X39, ⟨Lc39, hQ39, l39, y39, z39⟩, st39⟩ := Jvm.LawKit.callS X35 hx (y := (⟨"pithline/io/HttpResponseHeadLengthPinLaw", "ends", "([BII)Z"⟩ : MethodName)) hown (mvT hZ (hw _ (List.mem_of_getElem? (i := 6) rfl))) (mvT hZ (hw _ (List.mem_of_getElem? (i := 7) rfl))) (mvT hZ (hw _ (List.mem_of_getElem? (i := 3) rfl))) (mvT hZ (hw _ (List.mem_of_getElem? (i := 8) rfl))) (by decide) (backOf (W := 0) (rm2 l Z a0 hw [] b2 ln (1 : Int32) k2 [(nar .byte v5), (nar .byte v10), (nar .byte v15), (nar .byte v20), (nar .byte v25), (nar .byte v30)] h32 n0 Z32 V32' hln.2 (by decide)) hZ (hw _ (List.mem_of_getElem? (i := 8) rfl)) (hw _ (List.mem_of_getElem? (i := 3) rfl)) (by decide) (by decide)) (g := (mkF m 94 #[iv p1, iv p2, iv p3, iv p4, rv b2, iv ln, .unset] [(.int (1 : Int32)), (.int ln), (.ref b2)])) rfl (by rw [hml]; rfl) (argsL := [(.ref b2), (.int ln), (.int (1 : Int32))]) (rest := []) (lenOf pd_1 rfl) rfl (by show 2 * 0 + _ ≤ _; exact Nat.le_of_eq rfl) (hb hby at_94) (fun _ _ => ⟨rfl, e35, (by decide : 1 + 0 ≤ _), (by decide : 6 + 0 ≤ _)⟩)
    dsimp only [Pt.U, Pt.locs, Pt.cells, Pt.slots] at X39 l39 y39 z39 st39 hQ39
    subst l39 y39 z39
    obtain ⟨rfl, N39q, e39⟩ := hQ39
    have N39 := Fr.app N35 N39q
    have pre40 : ∀ t, SS p e below m T39 97 #[iv p1, iv p2, iv p3, iv p4, rv b2, iv ln, .unset] [(.int (f2 ln (1 : Int32) [(nar .byte v5), (nar .byte v10), (nar .byte v15), (nar .byte v20), (nar .byte v25), (nar .byte v30)]))] t → B t := fun t kk => pre38 t (by
      refine st39 _ ?_
      show SS p e below m T39 97 #[iv p1, iv p2, iv p3, iv p4, rv b2, iv ln, .unset] [(.int (f2 ln (1 : Int32) [(nar .byte v5), (nar .byte v10), (nar .byte v15), (nar .byte v20), (nar .byte v25), (nar .byte v30)]))] _
      exact kk)
    by_cases hc41 : (f2 ln (1 : Int32) [(nar .byte v5), (nar .byte v10), (nar .byte v15), (nar .byte v20), (nar .byte v25), (nar .byte v30)]) = (0 : Int32)
    · have pre42 : ∀ t, SS p e below m T39 111 #[iv p1, iv p2, iv p3, iv p4, rv b2, iv ln, .unset] [(.int (2 : Int32)), (.int ln), (.ref b2)] t → B t := fun t kk => pre40 t (by
        refine XS.ifYes X39.here hx rfl (pc0 := 97) (pc' := 106) rfl (hb hby at_97) rfl ((if0 _ _).trans (teq hc41).1) (by decide) (by decide) ?_
        show SS p e below m T39 106 #[iv p1, iv p2, iv p3, iv p4, rv b2, iv ln, .unset] [] _
        refine XS.aload X39.here hx rfl (hb hby at_106) rfl rfl ?_
        show SS p e below m T39 108 #[iv p1, iv p2, iv p3, iv p4, rv b2, iv ln, .unset] [(.ref b2)] _
        refine XS.iload X39.here hx rfl (hb hby at_108) rfl ?_
        show SS p e below m T39 110 #[iv p1, iv p2, iv p3, iv p4, rv b2, iv ln, .unset] [(.int ln), (.ref b2)] _
        refine XS.iconst X39.here hx rfl (hb hby at_110) ?_
        show SS p e below m T39 111 #[iv p1, iv p2, iv p3, iv p4, rv b2, iv ln, .unset] [(.int (2 : Int32)), (.int ln), (.ref b2)] _
        exact kk)
      obtain ⟨_, _, ⟨T43, L43, k43, n43⟩, -, X43, ⟨Lc43, hQ43, l43, y43, z43⟩, st43⟩ := Jvm.LawKit.callS X39 hx (y := (⟨"pithline/io/HttpResponseHeadLengthPinLaw", "ends", "([BII)Z"⟩ : MethodName)) hown (mvT hZ (hw _ (List.mem_of_getElem? (i := 6) rfl))) (mvT hZ (hw _ (List.mem_of_getElem? (i := 7) rfl))) (mvT hZ (hw _ (List.mem_of_getElem? (i := 3) rfl))) (mvT hZ (hw _ (List.mem_of_getElem? (i := 8) rfl))) (by decide) (backOf (W := 0) (rm2 l Z a0 hw [] b2 ln (2 : Int32) k2 [(nar .byte v5), (nar .byte v10), (nar .byte v15), (nar .byte v20), (nar .byte v25), (nar .byte v30)] h32 n0 Z32 V32' hln.2 (by decide)) hZ (hw _ (List.mem_of_getElem? (i := 8) rfl)) (hw _ (List.mem_of_getElem? (i := 3) rfl)) (by decide) (by decide)) (g := (mkF m 111 #[iv p1, iv p2, iv p3, iv p4, rv b2, iv ln, .unset] [(.int (2 : Int32)), (.int ln), (.ref b2)])) rfl (by rw [hml]; rfl) (argsL := [(.ref b2), (.int ln), (.int (2 : Int32))]) (rest := []) (lenOf pd_1 rfl) rfl (by show 2 * 0 + _ ≤ _; exact Nat.le_of_eq rfl) (hb hby at_111) (fun _ _ => ⟨rfl, e39, (by decide : 1 + 0 ≤ _), (by decide : 6 + 0 ≤ _)⟩)
      dsimp only [Pt.U, Pt.locs, Pt.cells, Pt.slots] at X43 l43 y43 z43 st43 hQ43
      subst l43 y43 z43
      obtain ⟨rfl, N43q, e43⟩ := hQ43
      have N43 := Fr.app N39 N43q
      have pre44 : ∀ t, SS p e below m T43 114 #[iv p1, iv p2, iv p3, iv p4, rv b2, iv ln, .unset] [(.int (f2 ln (2 : Int32) [(nar .byte v5), (nar .byte v10), (nar .byte v15), (nar .byte v20), (nar .byte v25), (nar .byte v30)]))] t → B t := fun t kk => pre42 t (by
        refine st43 _ ?_
        show SS p e below m T43 114 #[iv p1, iv p2, iv p3, iv p4, rv b2, iv ln, .unset] [(.int (f2 ln (2 : Int32) [(nar .byte v5), (nar .byte v10), (nar .byte v15), (nar .byte v20), (nar .byte v25), (nar .byte v30)]))] _
        exact kk)
      by_cases hc45 : (f2 ln (2 : Int32) [(nar .byte v5), (nar .byte v10), (nar .byte v15), (nar .byte v20), (nar .byte v25), (nar .byte v30)]) = (0 : Int32)
      · have pre46 : ∀ t, SS p e below m T43 128 #[iv p1, iv p2, iv p3, iv p4, rv b2, iv ln, .unset] [(.int (3 : Int32)), (.int ln), (.ref b2)] t → B t := fun t kk => pre44 t (by
          refine XS.ifYes X43.here hx rfl (pc0 := 114) (pc' := 123) rfl (hb hby at_114) rfl ((if0 _ _).trans (teq hc45).1) (by decide) (by decide) ?_
          show SS p e below m T43 123 #[iv p1, iv p2, iv p3, iv p4, rv b2, iv ln, .unset] [] _
          refine XS.aload X43.here hx rfl (hb hby at_123) rfl rfl ?_
          show SS p e below m T43 125 #[iv p1, iv p2, iv p3, iv p4, rv b2, iv ln, .unset] [(.ref b2)] _
          refine XS.iload X43.here hx rfl (hb hby at_125) rfl ?_
          show SS p e below m T43 127 #[iv p1, iv p2, iv p3, iv p4, rv b2, iv ln, .unset] [(.int ln), (.ref b2)] _
          refine XS.iconst X43.here hx rfl (hb hby at_127) ?_
          show SS p e below m T43 128 #[iv p1, iv p2, iv p3, iv p4, rv b2, iv ln, .unset] [(.int (3 : Int32)), (.int ln), (.ref b2)] _
          exact kk)
        obtain ⟨_, _, ⟨T47, L47, k47, n47⟩, -, X47, ⟨Lc47, hQ47, l47, y47, z47⟩, st47⟩ := Jvm.LawKit.callS X43 hx (y := (⟨"pithline/io/HttpResponseHeadLengthPinLaw", "ends", "([BII)Z"⟩ : MethodName)) hown (mvT hZ (hw _ (List.mem_of_getElem? (i := 6) rfl))) (mvT hZ (hw _ (List.mem_of_getElem? (i := 7) rfl))) (mvT hZ (hw _ (List.mem_of_getElem? (i := 3) rfl))) (mvT hZ (hw _ (List.mem_of_getElem? (i := 8) rfl))) (by decide) (backOf (W := 0) (rm2 l Z a0 hw [] b2 ln (3 : Int32) k2 [(nar .byte v5), (nar .byte v10), (nar .byte v15), (nar .byte v20), (nar .byte v25), (nar .byte v30)] h32 n0 Z32 V32' hln.2 (by decide)) hZ (hw _ (List.mem_of_getElem? (i := 8) rfl)) (hw _ (List.mem_of_getElem? (i := 3) rfl)) (by decide) (by decide)) (g := (mkF m 128 #[iv p1, iv p2, iv p3, iv p4, rv b2, iv ln, .unset] [(.int (3 : Int32)), (.int ln), (.ref b2)])) rfl (by rw [hml]; rfl) (argsL := [(.ref b2), (.int ln), (.int (3 : Int32))]) (rest := []) (lenOf pd_1 rfl) rfl (by show 2 * 0 + _ ≤ _; exact Nat.le_of_eq rfl) (hb hby at_128) (fun _ _ => ⟨rfl, e43, (by decide : 1 + 0 ≤ _), (by decide : 6 + 0 ≤ _)⟩)
        dsimp only [Pt.U, Pt.locs, Pt.cells, Pt.slots] at X47 l47 y47 z47 st47 hQ47
        subst l47 y47 z47
        obtain ⟨rfl, N47q, e47⟩ := hQ47
        have N47 := Fr.app N43 N47q
        have pre48 : ∀ t, SS p e below m T47 131 #[iv p1, iv p2, iv p3, iv p4, rv b2, iv ln, .unset] [(.int (f2 ln (3 : Int32) [(nar .byte v5), (nar .byte v10), (nar .byte v15), (nar .byte v20), (nar .byte v25), (nar .byte v30)]))] t → B t := fun t kk => pre46 t (by
          refine st47 _ ?_
          show SS p e below m T47 131 #[iv p1, iv p2, iv p3, iv p4, rv b2, iv ln, .unset] [(.int (f2 ln (3 : Int32) [(nar .byte v5), (nar .byte v10), (nar .byte v15), (nar .byte v20), (nar .byte v25), (nar .byte v30)]))] _
          exact kk)
        by_cases hc49 : (f2 ln (3 : Int32) [(nar .byte v5), (nar .byte v10), (nar .byte v15), (nar .byte v20), (nar .byte v25), (nar .byte v30)]) = (0 : Int32)
        · have pre50 : ∀ t, SS p e below m T47 145 #[iv p1, iv p2, iv p3, iv p4, rv b2, iv ln, .unset] [(.int (4 : Int32)), (.int ln), (.ref b2)] t → B t := fun t kk => pre48 t (by
            refine XS.ifYes X47.here hx rfl (pc0 := 131) (pc' := 140) rfl (hb hby at_131) rfl ((if0 _ _).trans (teq hc49).1) (by decide) (by decide) ?_
            show SS p e below m T47 140 #[iv p1, iv p2, iv p3, iv p4, rv b2, iv ln, .unset] [] _
            refine XS.aload X47.here hx rfl (hb hby at_140) rfl rfl ?_
            show SS p e below m T47 142 #[iv p1, iv p2, iv p3, iv p4, rv b2, iv ln, .unset] [(.ref b2)] _
            refine XS.iload X47.here hx rfl (hb hby at_142) rfl ?_
            show SS p e below m T47 144 #[iv p1, iv p2, iv p3, iv p4, rv b2, iv ln, .unset] [(.int ln), (.ref b2)] _
            refine XS.iconst X47.here hx rfl (hb hby at_144) ?_
            show SS p e below m T47 145 #[iv p1, iv p2, iv p3, iv p4, rv b2, iv ln, .unset] [(.int (4 : Int32)), (.int ln), (.ref b2)] _
            exact kk)
          obtain ⟨_, _, ⟨T51, L51, k51, n51⟩, -, X51, ⟨Lc51, hQ51, l51, y51, z51⟩, st51⟩ := Jvm.LawKit.callS X47 hx (y := (⟨"pithline/io/HttpResponseHeadLengthPinLaw", "ends", "([BII)Z"⟩ : MethodName)) hown (mvT hZ (hw _ (List.mem_of_getElem? (i := 6) rfl))) (mvT hZ (hw _ (List.mem_of_getElem? (i := 7) rfl))) (mvT hZ (hw _ (List.mem_of_getElem? (i := 3) rfl))) (mvT hZ (hw _ (List.mem_of_getElem? (i := 8) rfl))) (by decide) (backOf (W := 0) (rm2 l Z a0 hw [] b2 ln (4 : Int32) k2 [(nar .byte v5), (nar .byte v10), (nar .byte v15), (nar .byte v20), (nar .byte v25), (nar .byte v30)] h32 n0 Z32 V32' hln.2 (by decide)) hZ (hw _ (List.mem_of_getElem? (i := 8) rfl)) (hw _ (List.mem_of_getElem? (i := 3) rfl)) (by decide) (by decide)) (g := (mkF m 145 #[iv p1, iv p2, iv p3, iv p4, rv b2, iv ln, .unset] [(.int (4 : Int32)), (.int ln), (.ref b2)])) rfl (by rw [hml]; rfl) (argsL := [(.ref b2), (.int ln), (.int (4 : Int32))]) (rest := []) (lenOf pd_1 rfl) rfl (by show 2 * 0 + _ ≤ _; exact Nat.le_of_eq rfl) (hb hby at_145) (fun _ _ => ⟨rfl, e47, (by decide : 1 + 0 ≤ _), (by decide : 6 + 0 ≤ _)⟩)
          dsimp only [Pt.U, Pt.locs, Pt.cells, Pt.slots] at X51 l51 y51 z51 st51 hQ51
          subst l51 y51 z51
          obtain ⟨rfl, N51q, e51⟩ := hQ51
          have N51 := Fr.app N47 N51q
          have pre52 : ∀ t, SS p e below m T51 148 #[iv p1, iv p2, iv p3, iv p4, rv b2, iv ln, .unset] [(.int (f2 ln (4 : Int32) [(nar .byte v5), (nar .byte v10), (nar .byte v15), (nar .byte v20), (nar .byte v25), (nar .byte v30)]))] t → B t := fun t kk => pre50 t (by
            refine st51 _ ?_
            show SS p e below m T51 148 #[iv p1, iv p2, iv p3, iv p4, rv b2, iv ln, .unset] [(.int (f2 ln (4 : Int32) [(nar .byte v5), (nar .byte v10), (nar .byte v15), (nar .byte v20), (nar .byte v25), (nar .byte v30)]))] _
            exact kk)
          by_cases hc53 : (f2 ln (4 : Int32) [(nar .byte v5), (nar .byte v10), (nar .byte v15), (nar .byte v20), (nar .byte v25), (nar .byte v30)]) = (0 : Int32)
          · have pre54 : ∀ t, SS p e below m T51 162 #[iv p1, iv p2, iv p3, iv p4, rv b2, iv ln, .unset] [(.int (5 : Int32)), (.int ln), (.ref b2)] t → B t := fun t kk => pre52 t (by
              refine XS.ifYes X51.here hx rfl (pc0 := 148) (pc' := 157) rfl (hb hby at_148) rfl ((if0 _ _).trans (teq hc53).1) (by decide) (by decide) ?_
              show SS p e below m T51 157 #[iv p1, iv p2, iv p3, iv p4, rv b2, iv ln, .unset] [] _
              refine XS.aload X51.here hx rfl (hb hby at_157) rfl rfl ?_
              show SS p e below m T51 159 #[iv p1, iv p2, iv p3, iv p4, rv b2, iv ln, .unset] [(.ref b2)] _
              refine XS.iload X51.here hx rfl (hb hby at_159) rfl ?_
              show SS p e below m T51 161 #[iv p1, iv p2, iv p3, iv p4, rv b2, iv ln, .unset] [(.int ln), (.ref b2)] _
              refine XS.iconst X51.here hx rfl (hb hby at_161) ?_
              show SS p e below m T51 162 #[iv p1, iv p2, iv p3, iv p4, rv b2, iv ln, .unset] [(.int (5 : Int32)), (.int ln), (.ref b2)] _
              exact kk)
            obtain ⟨_, _, ⟨T55, L55, k55, n55⟩, -, X55, ⟨Lc55, hQ55, l55, y55, z55⟩, st55⟩ := Jvm.LawKit.callS X51 hx (y := (⟨"pithline/io/HttpResponseHeadLengthPinLaw", "ends", "([BII)Z"⟩ : MethodName)) hown (mvT hZ (hw _ (List.mem_of_getElem? (i := 6) rfl))) (mvT hZ (hw _ (List.mem_of_getElem? (i := 7) rfl))) (mvT hZ (hw _ (List.mem_of_getElem? (i := 3) rfl))) (mvT hZ (hw _ (List.mem_of_getElem? (i := 8) rfl))) (by decide) (backOf (W := 0) (rm2 l Z a0 hw [] b2 ln (5 : Int32) k2 [(nar .byte v5), (nar .byte v10), (nar .byte v15), (nar .byte v20), (nar .byte v25), (nar .byte v30)] h32 n0 Z32 V32' hln.2 (by decide)) hZ (hw _ (List.mem_of_getElem? (i := 8) rfl)) (hw _ (List.mem_of_getElem? (i := 3) rfl)) (by decide) (by decide)) (g := (mkF m 162 #[iv p1, iv p2, iv p3, iv p4, rv b2, iv ln, .unset] [(.int (5 : Int32)), (.int ln), (.ref b2)])) rfl (by rw [hml]; rfl) (argsL := [(.ref b2), (.int ln), (.int (5 : Int32))]) (rest := []) (lenOf pd_1 rfl) rfl (by show 2 * 0 + _ ≤ _; exact Nat.le_of_eq rfl) (hb hby at_162) (fun _ _ => ⟨rfl, e51, (by decide : 1 + 0 ≤ _), (by decide : 6 + 0 ≤ _)⟩)
            dsimp only [Pt.U, Pt.locs, Pt.cells, Pt.slots] at X55 l55 y55 z55 st55 hQ55
            subst l55 y55 z55
            obtain ⟨rfl, N55q, e55⟩ := hQ55
            have N55 := Fr.app N51 N55q
            have pre56 : ∀ t, SS p e below m T55 165 #[iv p1, iv p2, iv p3, iv p4, rv b2, iv ln, .unset] [(.int (f2 ln (5 : Int32) [(nar .byte v5), (nar .byte v10), (nar .byte v15), (nar .byte v20), (nar .byte v25), (nar .byte v30)]))] t → B t := fun t kk => pre54 t (by
              refine st55 _ ?_
              show SS p e below m T55 165 #[iv p1, iv p2, iv p3, iv p4, rv b2, iv ln, .unset] [(.int (f2 ln (5 : Int32) [(nar .byte v5), (nar .byte v10), (nar .byte v15), (nar .byte v20), (nar .byte v25), (nar .byte v30)]))] _
              exact kk)
            by_cases hc57 : (f2 ln (5 : Int32) [(nar .byte v5), (nar .byte v10), (nar .byte v15), (nar .byte v20), (nar .byte v25), (nar .byte v30)]) = (0 : Int32)
            · have pre58 : ∀ t, SS p e below m T55 182 #[iv p1, iv p2, iv p3, iv p4, rv b2, iv ln, iv (-1 : Int32)] [(.int ln), (.ref b2)] t → B t := fun t kk => pre56 t (by
                refine XS.ifYes X55.here hx rfl (pc0 := 165) (pc' := 175) rfl (hb hby at_165) rfl ((if0 _ _).trans (teq hc57).1) (by decide) (by decide) ?_
                show SS p e below m T55 175 #[iv p1, iv p2, iv p3, iv p4, rv b2, iv ln, .unset] [] _
                refine XS.iconst X55.here hx rfl (hb hby at_175) ?_
                show SS p e below m T55 176 #[iv p1, iv p2, iv p3, iv p4, rv b2, iv ln, .unset] [(.int (-1 : Int32))] _
                refine XS.istore X55.here hx rfl (hb hby at_176) rfl (l' := #[iv p1, iv p2, iv p3, iv p4, rv b2, iv ln, iv (-1 : Int32)]) rfl ?_
                show SS p e below m T55 178 #[iv p1, iv p2, iv p3, iv p4, rv b2, iv ln, iv (-1 : Int32)] [] _
                refine XS.aload X55.here hx rfl (hb hby at_178) rfl rfl ?_
                show SS p e below m T55 180 #[iv p1, iv p2, iv p3, iv p4, rv b2, iv ln, iv (-1 : Int32)] [(.ref b2)] _
                refine XS.iload X55.here hx rfl (hb hby at_180) rfl ?_
                show SS p e below m T55 182 #[iv p1, iv p2, iv p3, iv p4, rv b2, iv ln, iv (-1 : Int32)] [(.int ln), (.ref b2)] _
                exact kk)
              obtain ⟨_, _, ⟨T59, L59, k59, n59⟩, -, X59, ⟨Lc59, hQ59, l59, y59, z59⟩, st59⟩ := Jvm.LawKit.callS X55 hx (y := (⟨"pithline/io/HttpResponse", "headLength", "([BI)I"⟩ : MethodName)) hown (mvT hZ (hw _ (List.mem_of_getElem? (i := 9) rfl))) (mvT hZ (hw _ (List.mem_of_getElem? (i := 10) rfl))) (mvT hZ (hw _ (List.mem_of_getElem? (i := 11) rfl))) (mvT hZ (hw _ (List.mem_of_getElem? (i := 12) rfl))) (by decide) (backOf (W := 0) (rm3 l Z a0 hw [] b2 ln k2 [(nar .byte v5), (nar .byte v10), (nar .byte v15), (nar .byte v20), (nar .byte v25), (nar .byte v30)] h32 n0 Z32 V32' hln.2) hZ (hw _ (List.mem_of_getElem? (i := 12) rfl)) (hw _ (List.mem_of_getElem? (i := 11) rfl)) (by decide) (by decide)) (g := (mkF m 182 #[iv p1, iv p2, iv p3, iv p4, rv b2, iv ln, iv (-1 : Int32)] [(.int ln), (.ref b2)])) rfl (by rw [hml]; rfl) (argsL := [(.ref b2), (.int ln)]) (rest := []) (lenOf pd_2 rfl) rfl (by show 2 * 0 + _ ≤ _; exact Nat.le_of_eq rfl) (hb hby at_182) (fun _ _ => ⟨rfl, e55, (by decide : 1 + 0 ≤ _), (by decide : 6 + 0 ≤ _)⟩)
              dsimp only [Pt.U, Pt.locs, Pt.cells, Pt.slots] at X59 l59 y59 z59 st59 hQ59
              subst l59 y59 z59
              obtain ⟨rfl, N59q, e59⟩ := hQ59
              have N59 := Fr.app N55 N59q
              have pre60 : ∀ t, SS p e below m T59 195 #[iv p1, iv p2, iv p3, iv p4, rv b2, iv ln, iv (-1 : Int32)] [(.int (1 : Int32))] t → B t := fun t kk => pre58 t (by
                refine st59 _ ?_
                show SS p e below m T59 185 #[iv p1, iv p2, iv p3, iv p4, rv b2, iv ln, iv (-1 : Int32)] [(.int (f3 ln [(nar .byte v5), (nar .byte v10), (nar .byte v15), (nar .byte v20), (nar .byte v25), (nar .byte v30)]))] _
                refine XS.iload X59.here hx rfl (hb hby at_185) rfl ?_
                show SS p e below m T59 187 #[iv p1, iv p2, iv p3, iv p4, rv b2, iv ln, iv (-1 : Int32)] [(.int (-1 : Int32)), (.int (f3 ln [(nar .byte v5), (nar .byte v10), (nar .byte v15), (nar .byte v20), (nar .byte v25), (nar .byte v30)]))] _
                refine XS.icmpNo X59.here hx rfl (hb hby at_187) rfl (teq (by rw [own_fin _ _ hln.2, if_pos hc37, if_pos hc41, if_pos hc45, if_pos hc49, if_pos hc53, if_pos hc57])).2 ?_
                show SS p e below m T59 190 #[iv p1, iv p2, iv p3, iv p4, rv b2, iv ln, iv (-1 : Int32)] [] _
                refine XS.iconst X59.here hx rfl (hb hby at_190) ?_
                show SS p e below m T59 191 #[iv p1, iv p2, iv p3, iv p4, rv b2, iv ln, iv (-1 : Int32)] [(.int (1 : Int32))] _
                refine XS.goto X59.here hx rfl (pc0 := 191) (pc' := 195) rfl (hb hby at_191) (by decide) (by decide) ?_
                show SS p e below m T59 195 #[iv p1, iv p2, iv p3, iv p4, rv b2, iv ln, iv (-1 : Int32)] [(.int (1 : Int32))] _
                exact kk)
              obtain ⟨fs, hr, hrun, hended, hW, hsame⟩ := X59.leave (v := some (.int (1 : Int32))) (fun h => by rw [Bd.returns] at h; cases h)
              refine ⟨_, _, hB _ (pre60 _ ?_), hrun, hended, _, _, rfl, ?_, ⟨_, rfl⟩, hW, hsame.mono (by decide) (by decide)⟩
              · exact retN X59 hx (t := .boolean) Bd.returns (by simp) (hb hby at_195) hr
              · exact ⟨rfl, N59⟩
            · have pre61 : ∀ t, SS p e below m T55 182 #[iv p1, iv p2, iv p3, iv p4, rv b2, iv ln, iv (6 : Int32)] [(.int ln), (.ref b2)] t → B t := fun t kk => pre56 t (by
                refine XS.ifNo X55.here hx rfl (hb hby at_165) rfl ((if0 _ _).trans (feq hc57).1) ?_
                show SS p e below m T55 168 #[iv p1, iv p2, iv p3, iv p4, rv b2, iv ln, .unset] [] _
                refine XS.bipush X55.here hx rfl (hb hby at_168) ?_
                show SS p e below m T55 170 #[iv p1, iv p2, iv p3, iv p4, rv b2, iv ln, .unset] [(.int (6 : Int32))] _
                refine XS.istore X55.here hx rfl (hb hby at_170) rfl (l' := #[iv p1, iv p2, iv p3, iv p4, rv b2, iv ln, iv (6 : Int32)]) rfl ?_
                show SS p e below m T55 172 #[iv p1, iv p2, iv p3, iv p4, rv b2, iv ln, iv (6 : Int32)] [] _
                refine XS.goto X55.here hx rfl (pc0 := 172) (pc' := 178) rfl (hb hby at_172) (by decide) (by decide) ?_
                show SS p e below m T55 178 #[iv p1, iv p2, iv p3, iv p4, rv b2, iv ln, iv (6 : Int32)] [] _
                refine XS.aload X55.here hx rfl (hb hby at_178) rfl rfl ?_
                show SS p e below m T55 180 #[iv p1, iv p2, iv p3, iv p4, rv b2, iv ln, iv (6 : Int32)] [(.ref b2)] _
                refine XS.iload X55.here hx rfl (hb hby at_180) rfl ?_
                show SS p e below m T55 182 #[iv p1, iv p2, iv p3, iv p4, rv b2, iv ln, iv (6 : Int32)] [(.int ln), (.ref b2)] _
                exact kk)
              obtain ⟨_, _, ⟨T62, L62, k62, n62⟩, -, X62, ⟨Lc62, hQ62, l62, y62, z62⟩, st62⟩ := Jvm.LawKit.callS X55 hx (y := (⟨"pithline/io/HttpResponse", "headLength", "([BI)I"⟩ : MethodName)) hown (mvT hZ (hw _ (List.mem_of_getElem? (i := 9) rfl))) (mvT hZ (hw _ (List.mem_of_getElem? (i := 10) rfl))) (mvT hZ (hw _ (List.mem_of_getElem? (i := 11) rfl))) (mvT hZ (hw _ (List.mem_of_getElem? (i := 12) rfl))) (by decide) (backOf (W := 0) (rm3 l Z a0 hw [] b2 ln k2 [(nar .byte v5), (nar .byte v10), (nar .byte v15), (nar .byte v20), (nar .byte v25), (nar .byte v30)] h32 n0 Z32 V32' hln.2) hZ (hw _ (List.mem_of_getElem? (i := 12) rfl)) (hw _ (List.mem_of_getElem? (i := 11) rfl)) (by decide) (by decide)) (g := (mkF m 182 #[iv p1, iv p2, iv p3, iv p4, rv b2, iv ln, iv (6 : Int32)] [(.int ln), (.ref b2)])) rfl (by rw [hml]; rfl) (argsL := [(.ref b2), (.int ln)]) (rest := []) (lenOf pd_2 rfl) rfl (by show 2 * 0 + _ ≤ _; exact Nat.le_of_eq rfl) (hb hby at_182) (fun _ _ => ⟨rfl, e55, (by decide : 1 + 0 ≤ _), (by decide : 6 + 0 ≤ _)⟩)
              dsimp only [Pt.U, Pt.locs, Pt.cells, Pt.slots] at X62 l62 y62 z62 st62 hQ62
              subst l62 y62 z62
              obtain ⟨rfl, N62q, e62⟩ := hQ62
              have N62 := Fr.app N55 N62q
              have pre63 : ∀ t, SS p e below m T62 195 #[iv p1, iv p2, iv p3, iv p4, rv b2, iv ln, iv (6 : Int32)] [(.int (1 : Int32))] t → B t := fun t kk => pre61 t (by
                refine st62 _ ?_
                show SS p e below m T62 185 #[iv p1, iv p2, iv p3, iv p4, rv b2, iv ln, iv (6 : Int32)] [(.int (f3 ln [(nar .byte v5), (nar .byte v10), (nar .byte v15), (nar .byte v20), (nar .byte v25), (nar .byte v30)]))] _
                refine XS.iload X62.here hx rfl (hb hby at_185) rfl ?_
                show SS p e below m T62 187 #[iv p1, iv p2, iv p3, iv p4, rv b2, iv ln, iv (6 : Int32)] [(.int (6 : Int32)), (.int (f3 ln [(nar .byte v5), (nar .byte v10), (nar .byte v15), (nar .byte v20), (nar .byte v25), (nar .byte v30)]))] _
                refine XS.icmpNo X62.here hx rfl (hb hby at_187) rfl (teq (by rw [own_fin _ _ hln.2, if_pos hc37, if_pos hc41, if_pos hc45, if_pos hc49, if_pos hc53, if_neg hc57])).2 ?_
                show SS p e below m T62 190 #[iv p1, iv p2, iv p3, iv p4, rv b2, iv ln, iv (6 : Int32)] [] _
                refine XS.iconst X62.here hx rfl (hb hby at_190) ?_
                show SS p e below m T62 191 #[iv p1, iv p2, iv p3, iv p4, rv b2, iv ln, iv (6 : Int32)] [(.int (1 : Int32))] _
                refine XS.goto X62.here hx rfl (pc0 := 191) (pc' := 195) rfl (hb hby at_191) (by decide) (by decide) ?_
                show SS p e below m T62 195 #[iv p1, iv p2, iv p3, iv p4, rv b2, iv ln, iv (6 : Int32)] [(.int (1 : Int32))] _
                exact kk)
              obtain ⟨fs, hr, hrun, hended, hW, hsame⟩ := X62.leave (v := some (.int (1 : Int32))) (fun h => by rw [Bd.returns] at h; cases h)
              refine ⟨_, _, hB _ (pre63 _ ?_), hrun, hended, _, _, rfl, ?_, ⟨_, rfl⟩, hW, hsame.mono (by decide) (by decide)⟩
              · exact retN X62 hx (t := .boolean) Bd.returns (by simp) (hb hby at_195) hr
              · exact ⟨rfl, N62⟩
          · have pre64 : ∀ t, SS p e below m T51 182 #[iv p1, iv p2, iv p3, iv p4, rv b2, iv ln, iv (5 : Int32)] [(.int ln), (.ref b2)] t → B t := fun t kk => pre52 t (by
              refine XS.ifNo X51.here hx rfl (hb hby at_148) rfl ((if0 _ _).trans (feq hc53).1) ?_
              show SS p e below m T51 151 #[iv p1, iv p2, iv p3, iv p4, rv b2, iv ln, .unset] [] _
              refine XS.iconst X51.here hx rfl (hb hby at_151) ?_
              show SS p e below m T51 152 #[iv p1, iv p2, iv p3, iv p4, rv b2, iv ln, .unset] [(.int (5 : Int32))] _
              refine XS.istore X51.here hx rfl (hb hby at_152) rfl (l' := #[iv p1, iv p2, iv p3, iv p4, rv b2, iv ln, iv (5 : Int32)]) rfl ?_
              show SS p e below m T51 154 #[iv p1, iv p2, iv p3, iv p4, rv b2, iv ln, iv (5 : Int32)] [] _
              refine XS.goto X51.here hx rfl (pc0 := 154) (pc' := 178) rfl (hb hby at_154) (by decide) (by decide) ?_
              show SS p e below m T51 178 #[iv p1, iv p2, iv p3, iv p4, rv b2, iv ln, iv (5 : Int32)] [] _
              refine XS.aload X51.here hx rfl (hb hby at_178) rfl rfl ?_
              show SS p e below m T51 180 #[iv p1, iv p2, iv p3, iv p4, rv b2, iv ln, iv (5 : Int32)] [(.ref b2)] _
              refine XS.iload X51.here hx rfl (hb hby at_180) rfl ?_
              show SS p e below m T51 182 #[iv p1, iv p2, iv p3, iv p4, rv b2, iv ln, iv (5 : Int32)] [(.int ln), (.ref b2)] _
              exact kk)
            obtain ⟨_, _, ⟨T65, L65, k65, n65⟩, -, X65, ⟨Lc65, hQ65, l65, y65, z65⟩, st65⟩ := Jvm.LawKit.callS X51 hx (y := (⟨"pithline/io/HttpResponse", "headLength", "([BI)I"⟩ : MethodName)) hown (mvT hZ (hw _ (List.mem_of_getElem? (i := 9) rfl))) (mvT hZ (hw _ (List.mem_of_getElem? (i := 10) rfl))) (mvT hZ (hw _ (List.mem_of_getElem? (i := 11) rfl))) (mvT hZ (hw _ (List.mem_of_getElem? (i := 12) rfl))) (by decide) (backOf (W := 0) (rm3 l Z a0 hw [] b2 ln k2 [(nar .byte v5), (nar .byte v10), (nar .byte v15), (nar .byte v20), (nar .byte v25), (nar .byte v30)] h32 n0 Z32 V32' hln.2) hZ (hw _ (List.mem_of_getElem? (i := 12) rfl)) (hw _ (List.mem_of_getElem? (i := 11) rfl)) (by decide) (by decide)) (g := (mkF m 182 #[iv p1, iv p2, iv p3, iv p4, rv b2, iv ln, iv (5 : Int32)] [(.int ln), (.ref b2)])) rfl (by rw [hml]; rfl) (argsL := [(.ref b2), (.int ln)]) (rest := []) (lenOf pd_2 rfl) rfl (by show 2 * 0 + _ ≤ _; exact Nat.le_of_eq rfl) (hb hby at_182) (fun _ _ => ⟨rfl, e51, (by decide : 1 + 0 ≤ _), (by decide : 6 + 0 ≤ _)⟩)
            dsimp only [Pt.U, Pt.locs, Pt.cells, Pt.slots] at X65 l65 y65 z65 st65 hQ65
            subst l65 y65 z65
            obtain ⟨rfl, N65q, e65⟩ := hQ65
            have N65 := Fr.app N51 N65q
            have pre66 : ∀ t, SS p e below m T65 195 #[iv p1, iv p2, iv p3, iv p4, rv b2, iv ln, iv (5 : Int32)] [(.int (1 : Int32))] t → B t := fun t kk => pre64 t (by
              refine st65 _ ?_
              show SS p e below m T65 185 #[iv p1, iv p2, iv p3, iv p4, rv b2, iv ln, iv (5 : Int32)] [(.int (f3 ln [(nar .byte v5), (nar .byte v10), (nar .byte v15), (nar .byte v20), (nar .byte v25), (nar .byte v30)]))] _
              refine XS.iload X65.here hx rfl (hb hby at_185) rfl ?_
              show SS p e below m T65 187 #[iv p1, iv p2, iv p3, iv p4, rv b2, iv ln, iv (5 : Int32)] [(.int (5 : Int32)), (.int (f3 ln [(nar .byte v5), (nar .byte v10), (nar .byte v15), (nar .byte v20), (nar .byte v25), (nar .byte v30)]))] _
              refine XS.icmpNo X65.here hx rfl (hb hby at_187) rfl (teq (by rw [own_fin _ _ hln.2, if_pos hc37, if_pos hc41, if_pos hc45, if_pos hc49, if_neg hc53])).2 ?_
              show SS p e below m T65 190 #[iv p1, iv p2, iv p3, iv p4, rv b2, iv ln, iv (5 : Int32)] [] _
              refine XS.iconst X65.here hx rfl (hb hby at_190) ?_
              show SS p e below m T65 191 #[iv p1, iv p2, iv p3, iv p4, rv b2, iv ln, iv (5 : Int32)] [(.int (1 : Int32))] _
              refine XS.goto X65.here hx rfl (pc0 := 191) (pc' := 195) rfl (hb hby at_191) (by decide) (by decide) ?_
              show SS p e below m T65 195 #[iv p1, iv p2, iv p3, iv p4, rv b2, iv ln, iv (5 : Int32)] [(.int (1 : Int32))] _
              exact kk)
            obtain ⟨fs, hr, hrun, hended, hW, hsame⟩ := X65.leave (v := some (.int (1 : Int32))) (fun h => by rw [Bd.returns] at h; cases h)
            refine ⟨_, _, hB _ (pre66 _ ?_), hrun, hended, _, _, rfl, ?_, ⟨_, rfl⟩, hW, hsame.mono (by decide) (by decide)⟩
            · exact retN X65 hx (t := .boolean) Bd.returns (by simp) (hb hby at_195) hr
            · exact ⟨rfl, N65⟩
        · have pre67 : ∀ t, SS p e below m T47 182 #[iv p1, iv p2, iv p3, iv p4, rv b2, iv ln, iv (4 : Int32)] [(.int ln), (.ref b2)] t → B t := fun t kk => pre48 t (by
            refine XS.ifNo X47.here hx rfl (hb hby at_131) rfl ((if0 _ _).trans (feq hc49).1) ?_
            show SS p e below m T47 134 #[iv p1, iv p2, iv p3, iv p4, rv b2, iv ln, .unset] [] _
            refine XS.iconst X47.here hx rfl (hb hby at_134) ?_
            show SS p e below m T47 135 #[iv p1, iv p2, iv p3, iv p4, rv b2, iv ln, .unset] [(.int (4 : Int32))] _
            refine XS.istore X47.here hx rfl (hb hby at_135) rfl (l' := #[iv p1, iv p2, iv p3, iv p4, rv b2, iv ln, iv (4 : Int32)]) rfl ?_
            show SS p e below m T47 137 #[iv p1, iv p2, iv p3, iv p4, rv b2, iv ln, iv (4 : Int32)] [] _
            refine XS.goto X47.here hx rfl (pc0 := 137) (pc' := 178) rfl (hb hby at_137) (by decide) (by decide) ?_
            show SS p e below m T47 178 #[iv p1, iv p2, iv p3, iv p4, rv b2, iv ln, iv (4 : Int32)] [] _
            refine XS.aload X47.here hx rfl (hb hby at_178) rfl rfl ?_
            show SS p e below m T47 180 #[iv p1, iv p2, iv p3, iv p4, rv b2, iv ln, iv (4 : Int32)] [(.ref b2)] _
            refine XS.iload X47.here hx rfl (hb hby at_180) rfl ?_
            show SS p e below m T47 182 #[iv p1, iv p2, iv p3, iv p4, rv b2, iv ln, iv (4 : Int32)] [(.int ln), (.ref b2)] _
            exact kk)
          obtain ⟨_, _, ⟨T68, L68, k68, n68⟩, -, X68, ⟨Lc68, hQ68, l68, y68, z68⟩, st68⟩ := Jvm.LawKit.callS X47 hx (y := (⟨"pithline/io/HttpResponse", "headLength", "([BI)I"⟩ : MethodName)) hown (mvT hZ (hw _ (List.mem_of_getElem? (i := 9) rfl))) (mvT hZ (hw _ (List.mem_of_getElem? (i := 10) rfl))) (mvT hZ (hw _ (List.mem_of_getElem? (i := 11) rfl))) (mvT hZ (hw _ (List.mem_of_getElem? (i := 12) rfl))) (by decide) (backOf (W := 0) (rm3 l Z a0 hw [] b2 ln k2 [(nar .byte v5), (nar .byte v10), (nar .byte v15), (nar .byte v20), (nar .byte v25), (nar .byte v30)] h32 n0 Z32 V32' hln.2) hZ (hw _ (List.mem_of_getElem? (i := 12) rfl)) (hw _ (List.mem_of_getElem? (i := 11) rfl)) (by decide) (by decide)) (g := (mkF m 182 #[iv p1, iv p2, iv p3, iv p4, rv b2, iv ln, iv (4 : Int32)] [(.int ln), (.ref b2)])) rfl (by rw [hml]; rfl) (argsL := [(.ref b2), (.int ln)]) (rest := []) (lenOf pd_2 rfl) rfl (by show 2 * 0 + _ ≤ _; exact Nat.le_of_eq rfl) (hb hby at_182) (fun _ _ => ⟨rfl, e47, (by decide : 1 + 0 ≤ _), (by decide : 6 + 0 ≤ _)⟩)
          dsimp only [Pt.U, Pt.locs, Pt.cells, Pt.slots] at X68 l68 y68 z68 st68 hQ68
          subst l68 y68 z68
          obtain ⟨rfl, N68q, e68⟩ := hQ68
          have N68 := Fr.app N47 N68q
          have pre69 : ∀ t, SS p e below m T68 195 #[iv p1, iv p2, iv p3, iv p4, rv b2, iv ln, iv (4 : Int32)] [(.int (1 : Int32))] t → B t := fun t kk => pre67 t (by
            refine st68 _ ?_
            show SS p e below m T68 185 #[iv p1, iv p2, iv p3, iv p4, rv b2, iv ln, iv (4 : Int32)] [(.int (f3 ln [(nar .byte v5), (nar .byte v10), (nar .byte v15), (nar .byte v20), (nar .byte v25), (nar .byte v30)]))] _
            refine XS.iload X68.here hx rfl (hb hby at_185) rfl ?_
            show SS p e below m T68 187 #[iv p1, iv p2, iv p3, iv p4, rv b2, iv ln, iv (4 : Int32)] [(.int (4 : Int32)), (.int (f3 ln [(nar .byte v5), (nar .byte v10), (nar .byte v15), (nar .byte v20), (nar .byte v25), (nar .byte v30)]))] _
            refine XS.icmpNo X68.here hx rfl (hb hby at_187) rfl (teq (by rw [own_fin _ _ hln.2, if_pos hc37, if_pos hc41, if_pos hc45, if_neg hc49])).2 ?_
            show SS p e below m T68 190 #[iv p1, iv p2, iv p3, iv p4, rv b2, iv ln, iv (4 : Int32)] [] _
            refine XS.iconst X68.here hx rfl (hb hby at_190) ?_
            show SS p e below m T68 191 #[iv p1, iv p2, iv p3, iv p4, rv b2, iv ln, iv (4 : Int32)] [(.int (1 : Int32))] _
            refine XS.goto X68.here hx rfl (pc0 := 191) (pc' := 195) rfl (hb hby at_191) (by decide) (by decide) ?_
            show SS p e below m T68 195 #[iv p1, iv p2, iv p3, iv p4, rv b2, iv ln, iv (4 : Int32)] [(.int (1 : Int32))] _
            exact kk)
          obtain ⟨fs, hr, hrun, hended, hW, hsame⟩ := X68.leave (v := some (.int (1 : Int32))) (fun h => by rw [Bd.returns] at h; cases h)
          refine ⟨_, _, hB _ (pre69 _ ?_), hrun, hended, _, _, rfl, ?_, ⟨_, rfl⟩, hW, hsame.mono (by decide) (by decide)⟩
          · exact retN X68 hx (t := .boolean) Bd.returns (by simp) (hb hby at_195) hr
          · exact ⟨rfl, N68⟩
      · have pre70 : ∀ t, SS p e below m T43 182 #[iv p1, iv p2, iv p3, iv p4, rv b2, iv ln, iv (3 : Int32)] [(.int ln), (.ref b2)] t → B t := fun t kk => pre44 t (by
          refine XS.ifNo X43.here hx rfl (hb hby at_114) rfl ((if0 _ _).trans (feq hc45).1) ?_
          show SS p e below m T43 117 #[iv p1, iv p2, iv p3, iv p4, rv b2, iv ln, .unset] [] _
          refine XS.iconst X43.here hx rfl (hb hby at_117) ?_
          show SS p e below m T43 118 #[iv p1, iv p2, iv p3, iv p4, rv b2, iv ln, .unset] [(.int (3 : Int32))] _
          refine XS.istore X43.here hx rfl (hb hby at_118) rfl (l' := #[iv p1, iv p2, iv p3, iv p4, rv b2, iv ln, iv (3 : Int32)]) rfl ?_
          show SS p e below m T43 120 #[iv p1, iv p2, iv p3, iv p4, rv b2, iv ln, iv (3 : Int32)] [] _
          refine XS.goto X43.here hx rfl (pc0 := 120) (pc' := 178) rfl (hb hby at_120) (by decide) (by decide) ?_
          show SS p e below m T43 178 #[iv p1, iv p2, iv p3, iv p4, rv b2, iv ln, iv (3 : Int32)] [] _
          refine XS.aload X43.here hx rfl (hb hby at_178) rfl rfl ?_
          show SS p e below m T43 180 #[iv p1, iv p2, iv p3, iv p4, rv b2, iv ln, iv (3 : Int32)] [(.ref b2)] _
          refine XS.iload X43.here hx rfl (hb hby at_180) rfl ?_
          show SS p e below m T43 182 #[iv p1, iv p2, iv p3, iv p4, rv b2, iv ln, iv (3 : Int32)] [(.int ln), (.ref b2)] _
          exact kk)
        obtain ⟨_, _, ⟨T71, L71, k71, n71⟩, -, X71, ⟨Lc71, hQ71, l71, y71, z71⟩, st71⟩ := Jvm.LawKit.callS X43 hx (y := (⟨"pithline/io/HttpResponse", "headLength", "([BI)I"⟩ : MethodName)) hown (mvT hZ (hw _ (List.mem_of_getElem? (i := 9) rfl))) (mvT hZ (hw _ (List.mem_of_getElem? (i := 10) rfl))) (mvT hZ (hw _ (List.mem_of_getElem? (i := 11) rfl))) (mvT hZ (hw _ (List.mem_of_getElem? (i := 12) rfl))) (by decide) (backOf (W := 0) (rm3 l Z a0 hw [] b2 ln k2 [(nar .byte v5), (nar .byte v10), (nar .byte v15), (nar .byte v20), (nar .byte v25), (nar .byte v30)] h32 n0 Z32 V32' hln.2) hZ (hw _ (List.mem_of_getElem? (i := 12) rfl)) (hw _ (List.mem_of_getElem? (i := 11) rfl)) (by decide) (by decide)) (g := (mkF m 182 #[iv p1, iv p2, iv p3, iv p4, rv b2, iv ln, iv (3 : Int32)] [(.int ln), (.ref b2)])) rfl (by rw [hml]; rfl) (argsL := [(.ref b2), (.int ln)]) (rest := []) (lenOf pd_2 rfl) rfl (by show 2 * 0 + _ ≤ _; exact Nat.le_of_eq rfl) (hb hby at_182) (fun _ _ => ⟨rfl, e43, (by decide : 1 + 0 ≤ _), (by decide : 6 + 0 ≤ _)⟩)
        dsimp only [Pt.U, Pt.locs, Pt.cells, Pt.slots] at X71 l71 y71 z71 st71 hQ71
        subst l71 y71 z71
        obtain ⟨rfl, N71q, e71⟩ := hQ71
        have N71 := Fr.app N43 N71q
        have pre72 : ∀ t, SS p e below m T71 195 #[iv p1, iv p2, iv p3, iv p4, rv b2, iv ln, iv (3 : Int32)] [(.int (1 : Int32))] t → B t := fun t kk => pre70 t (by
          refine st71 _ ?_
          show SS p e below m T71 185 #[iv p1, iv p2, iv p3, iv p4, rv b2, iv ln, iv (3 : Int32)] [(.int (f3 ln [(nar .byte v5), (nar .byte v10), (nar .byte v15), (nar .byte v20), (nar .byte v25), (nar .byte v30)]))] _
          refine XS.iload X71.here hx rfl (hb hby at_185) rfl ?_
          show SS p e below m T71 187 #[iv p1, iv p2, iv p3, iv p4, rv b2, iv ln, iv (3 : Int32)] [(.int (3 : Int32)), (.int (f3 ln [(nar .byte v5), (nar .byte v10), (nar .byte v15), (nar .byte v20), (nar .byte v25), (nar .byte v30)]))] _
          refine XS.icmpNo X71.here hx rfl (hb hby at_187) rfl (teq (by rw [own_fin _ _ hln.2, if_pos hc37, if_pos hc41, if_neg hc45])).2 ?_
          show SS p e below m T71 190 #[iv p1, iv p2, iv p3, iv p4, rv b2, iv ln, iv (3 : Int32)] [] _
          refine XS.iconst X71.here hx rfl (hb hby at_190) ?_
          show SS p e below m T71 191 #[iv p1, iv p2, iv p3, iv p4, rv b2, iv ln, iv (3 : Int32)] [(.int (1 : Int32))] _
          refine XS.goto X71.here hx rfl (pc0 := 191) (pc' := 195) rfl (hb hby at_191) (by decide) (by decide) ?_
          show SS p e below m T71 195 #[iv p1, iv p2, iv p3, iv p4, rv b2, iv ln, iv (3 : Int32)] [(.int (1 : Int32))] _
          exact kk)
        obtain ⟨fs, hr, hrun, hended, hW, hsame⟩ := X71.leave (v := some (.int (1 : Int32))) (fun h => by rw [Bd.returns] at h; cases h)
        refine ⟨_, _, hB _ (pre72 _ ?_), hrun, hended, _, _, rfl, ?_, ⟨_, rfl⟩, hW, hsame.mono (by decide) (by decide)⟩
        · exact retN X71 hx (t := .boolean) Bd.returns (by simp) (hb hby at_195) hr
        · exact ⟨rfl, N71⟩
    · have pre73 : ∀ t, SS p e below m T39 182 #[iv p1, iv p2, iv p3, iv p4, rv b2, iv ln, iv (2 : Int32)] [(.int ln), (.ref b2)] t → B t := fun t kk => pre40 t (by
        refine XS.ifNo X39.here hx rfl (hb hby at_97) rfl ((if0 _ _).trans (feq hc41).1) ?_
        show SS p e below m T39 100 #[iv p1, iv p2, iv p3, iv p4, rv b2, iv ln, .unset] [] _
        refine XS.iconst X39.here hx rfl (hb hby at_100) ?_
        show SS p e below m T39 101 #[iv p1, iv p2, iv p3, iv p4, rv b2, iv ln, .unset] [(.int (2 : Int32))] _
        refine XS.istore X39.here hx rfl (hb hby at_101) rfl (l' := #[iv p1, iv p2, iv p3, iv p4, rv b2, iv ln, iv (2 : Int32)]) rfl ?_
        show SS p e below m T39 103 #[iv p1, iv p2, iv p3, iv p4, rv b2, iv ln, iv (2 : Int32)] [] _
        refine XS.goto X39.here hx rfl (pc0 := 103) (pc' := 178) rfl (hb hby at_103) (by decide) (by decide) ?_
        show SS p e below m T39 178 #[iv p1, iv p2, iv p3, iv p4, rv b2, iv ln, iv (2 : Int32)] [] _
        refine XS.aload X39.here hx rfl (hb hby at_178) rfl rfl ?_
        show SS p e below m T39 180 #[iv p1, iv p2, iv p3, iv p4, rv b2, iv ln, iv (2 : Int32)] [(.ref b2)] _
        refine XS.iload X39.here hx rfl (hb hby at_180) rfl ?_
        show SS p e below m T39 182 #[iv p1, iv p2, iv p3, iv p4, rv b2, iv ln, iv (2 : Int32)] [(.int ln), (.ref b2)] _
        exact kk)
      obtain ⟨_, _, ⟨T74, L74, k74, n74⟩, -, X74, ⟨Lc74, hQ74, l74, y74, z74⟩, st74⟩ := Jvm.LawKit.callS X39 hx (y := (⟨"pithline/io/HttpResponse", "headLength", "([BI)I"⟩ : MethodName)) hown (mvT hZ (hw _ (List.mem_of_getElem? (i := 9) rfl))) (mvT hZ (hw _ (List.mem_of_getElem? (i := 10) rfl))) (mvT hZ (hw _ (List.mem_of_getElem? (i := 11) rfl))) (mvT hZ (hw _ (List.mem_of_getElem? (i := 12) rfl))) (by decide) (backOf (W := 0) (rm3 l Z a0 hw [] b2 ln k2 [(nar .byte v5), (nar .byte v10), (nar .byte v15), (nar .byte v20), (nar .byte v25), (nar .byte v30)] h32 n0 Z32 V32' hln.2) hZ (hw _ (List.mem_of_getElem? (i := 12) rfl)) (hw _ (List.mem_of_getElem? (i := 11) rfl)) (by decide) (by decide)) (g := (mkF m 182 #[iv p1, iv p2, iv p3, iv p4, rv b2, iv ln, iv (2 : Int32)] [(.int ln), (.ref b2)])) rfl (by rw [hml]; rfl) (argsL := [(.ref b2), (.int ln)]) (rest := []) (lenOf pd_2 rfl) rfl (by show 2 * 0 + _ ≤ _; exact Nat.le_of_eq rfl) (hb hby at_182) (fun _ _ => ⟨rfl, e39, (by decide : 1 + 0 ≤ _), (by decide : 6 + 0 ≤ _)⟩)
      dsimp only [Pt.U, Pt.locs, Pt.cells, Pt.slots] at X74 l74 y74 z74 st74 hQ74
      subst l74 y74 z74
      obtain ⟨rfl, N74q, e74⟩ := hQ74
      have N74 := Fr.app N39 N74q
      have pre75 : ∀ t, SS p e below m T74 195 #[iv p1, iv p2, iv p3, iv p4, rv b2, iv ln, iv (2 : Int32)] [(.int (1 : Int32))] t → B t := fun t kk => pre73 t (by
        refine st74 _ ?_
        show SS p e below m T74 185 #[iv p1, iv p2, iv p3, iv p4, rv b2, iv ln, iv (2 : Int32)] [(.int (f3 ln [(nar .byte v5), (nar .byte v10), (nar .byte v15), (nar .byte v20), (nar .byte v25), (nar .byte v30)]))] _
        refine XS.iload X74.here hx rfl (hb hby at_185) rfl ?_
        show SS p e below m T74 187 #[iv p1, iv p2, iv p3, iv p4, rv b2, iv ln, iv (2 : Int32)] [(.int (2 : Int32)), (.int (f3 ln [(nar .byte v5), (nar .byte v10), (nar .byte v15), (nar .byte v20), (nar .byte v25), (nar .byte v30)]))] _
        refine XS.icmpNo X74.here hx rfl (hb hby at_187) rfl (teq (by rw [own_fin _ _ hln.2, if_pos hc37, if_neg hc41])).2 ?_
        show SS p e below m T74 190 #[iv p1, iv p2, iv p3, iv p4, rv b2, iv ln, iv (2 : Int32)] [] _
        refine XS.iconst X74.here hx rfl (hb hby at_190) ?_
        show SS p e below m T74 191 #[iv p1, iv p2, iv p3, iv p4, rv b2, iv ln, iv (2 : Int32)] [(.int (1 : Int32))] _
        refine XS.goto X74.here hx rfl (pc0 := 191) (pc' := 195) rfl (hb hby at_191) (by decide) (by decide) ?_
        show SS p e below m T74 195 #[iv p1, iv p2, iv p3, iv p4, rv b2, iv ln, iv (2 : Int32)] [(.int (1 : Int32))] _
        exact kk)
      obtain ⟨fs, hr, hrun, hended, hW, hsame⟩ := X74.leave (v := some (.int (1 : Int32))) (fun h => by rw [Bd.returns] at h; cases h)
      refine ⟨_, _, hB _ (pre75 _ ?_), hrun, hended, _, _, rfl, ?_, ⟨_, rfl⟩, hW, hsame.mono (by decide) (by decide)⟩
      · exact retN X74 hx (t := .boolean) Bd.returns (by simp) (hb hby at_195) hr
      · exact ⟨rfl, N74⟩
  · have pre76 : ∀ t, SS p e below m T35 182 #[iv p1, iv p2, iv p3, iv p4, rv b2, iv ln, iv (1 : Int32)] [(.int ln), (.ref b2)] t → B t := fun t kk => pre36 t (by
      refine XS.ifNo X35.here hx rfl (hb hby at_80) rfl ((if0 _ _).trans (feq hc37).1) ?_
      show SS p e below m T35 83 #[iv p1, iv p2, iv p3, iv p4, rv b2, iv ln, .unset] [] _
      refine XS.iconst X35.here hx rfl (hb hby at_83) ?_
      show SS p e below m T35 84 #[iv p1, iv p2, iv p3, iv p4, rv b2, iv ln, .unset] [(.int (1 : Int32))] _
      refine XS.istore X35.here hx rfl (hb hby at_84) rfl (l' := #[iv p1, iv p2, iv p3, iv p4, rv b2, iv ln, iv (1 : Int32)]) rfl ?_
      show SS p e below m T35 86 #[iv p1, iv p2, iv p3, iv p4, rv b2, iv ln, iv (1 : Int32)] [] _
      refine XS.goto X35.here hx rfl (pc0 := 86) (pc' := 178) rfl (hb hby at_86) (by decide) (by decide) ?_
      show SS p e below m T35 178 #[iv p1, iv p2, iv p3, iv p4, rv b2, iv ln, iv (1 : Int32)] [] _
      refine XS.aload X35.here hx rfl (hb hby at_178) rfl rfl ?_
      show SS p e below m T35 180 #[iv p1, iv p2, iv p3, iv p4, rv b2, iv ln, iv (1 : Int32)] [(.ref b2)] _
      refine XS.iload X35.here hx rfl (hb hby at_180) rfl ?_
      show SS p e below m T35 182 #[iv p1, iv p2, iv p3, iv p4, rv b2, iv ln, iv (1 : Int32)] [(.int ln), (.ref b2)] _
      exact kk)
    obtain ⟨_, _, ⟨T77, L77, k77, n77⟩, -, X77, ⟨Lc77, hQ77, l77, y77, z77⟩, st77⟩ := Jvm.LawKit.callS X35 hx (y := (⟨"pithline/io/HttpResponse", "headLength", "([BI)I"⟩ : MethodName)) hown (mvT hZ (hw _ (List.mem_of_getElem? (i := 9) rfl))) (mvT hZ (hw _ (List.mem_of_getElem? (i := 10) rfl))) (mvT hZ (hw _ (List.mem_of_getElem? (i := 11) rfl))) (mvT hZ (hw _ (List.mem_of_getElem? (i := 12) rfl))) (by decide) (backOf (W := 0) (rm3 l Z a0 hw [] b2 ln k2 [(nar .byte v5), (nar .byte v10), (nar .byte v15), (nar .byte v20), (nar .byte v25), (nar .byte v30)] h32 n0 Z32 V32' hln.2) hZ (hw _ (List.mem_of_getElem? (i := 12) rfl)) (hw _ (List.mem_of_getElem? (i := 11) rfl)) (by decide) (by decide)) (g := (mkF m 182 #[iv p1, iv p2, iv p3, iv p4, rv b2, iv ln, iv (1 : Int32)] [(.int ln), (.ref b2)])) rfl (by rw [hml]; rfl) (argsL := [(.ref b2), (.int ln)]) (rest := []) (lenOf pd_2 rfl) rfl (by show 2 * 0 + _ ≤ _; exact Nat.le_of_eq rfl) (hb hby at_182) (fun _ _ => ⟨rfl, e35, (by decide : 1 + 0 ≤ _), (by decide : 6 + 0 ≤ _)⟩)
    dsimp only [Pt.U, Pt.locs, Pt.cells, Pt.slots] at X77 l77 y77 z77 st77 hQ77
    subst l77 y77 z77
    obtain ⟨rfl, N77q, e77⟩ := hQ77
    have N77 := Fr.app N35 N77q
    have pre78 : ∀ t, SS p e below m T77 195 #[iv p1, iv p2, iv p3, iv p4, rv b2, iv ln, iv (1 : Int32)] [(.int (1 : Int32))] t → B t := fun t kk => pre76 t (by
      refine st77 _ ?_
      show SS p e below m T77 185 #[iv p1, iv p2, iv p3, iv p4, rv b2, iv ln, iv (1 : Int32)] [(.int (f3 ln [(nar .byte v5), (nar .byte v10), (nar .byte v15), (nar .byte v20), (nar .byte v25), (nar .byte v30)]))] _
      refine XS.iload X77.here hx rfl (hb hby at_185) rfl ?_
      show SS p e below m T77 187 #[iv p1, iv p2, iv p3, iv p4, rv b2, iv ln, iv (1 : Int32)] [(.int (1 : Int32)), (.int (f3 ln [(nar .byte v5), (nar .byte v10), (nar .byte v15), (nar .byte v20), (nar .byte v25), (nar .byte v30)]))] _
      refine XS.icmpNo X77.here hx rfl (hb hby at_187) rfl (teq (by rw [own_fin _ _ hln.2, if_neg hc37])).2 ?_
      show SS p e below m T77 190 #[iv p1, iv p2, iv p3, iv p4, rv b2, iv ln, iv (1 : Int32)] [] _
      refine XS.iconst X77.here hx rfl (hb hby at_190) ?_
      show SS p e below m T77 191 #[iv p1, iv p2, iv p3, iv p4, rv b2, iv ln, iv (1 : Int32)] [(.int (1 : Int32))] _
      refine XS.goto X77.here hx rfl (pc0 := 191) (pc' := 195) rfl (hb hby at_191) (by decide) (by decide) ?_
      show SS p e below m T77 195 #[iv p1, iv p2, iv p3, iv p4, rv b2, iv ln, iv (1 : Int32)] [(.int (1 : Int32))] _
      exact kk)
    obtain ⟨fs, hr, hrun, hended, hW, hsame⟩ := X77.leave (v := some (.int (1 : Int32))) (fun h => by rw [Bd.returns] at h; cases h)
    refine ⟨_, _, hB _ (pre78 _ ?_), hrun, hended, _, _, rfl, ?_, ⟨_, rfl⟩, hW, hsame.mono (by decide) (by decide)⟩
    · exact retN X77 hx (t := .boolean) Bd.returns (by simp) (hb hby at_195) hr
    · exact ⟨rfl, N77⟩
set_option maxRecDepth 65536 in
set_option maxHeartbeats 40000000 in
theorem comes_1 {Post : Tables → Env → Array Value → State → Outcome → State → Prop} (hpost : ∀ tb e args s v u, (limb_1_1.after args s (.returned v) u = true ∧ limb_1_2.after args s (.returned v) u = true ∧ True) → FrameEnd s (.returned v) u (Jvm.fieldLocs frame_1_writes args s ++ Jvm.arrayLocs frame_1_arrays args s ++ Jvm.staticLocs frame_1_statics s) 16 128 → Post tb e args s (.returned v) u) :
    ArmFor flags0 classFile x code maxLocals ret World_1 tables_1 room_1 Calls_1 rest_1 Pre_1 Post := by
  intro l hfl _ _ p e ha hc hk s m args below hf hA hF happ hP
  obtain ⟨hcalls, hrest, hpre⟩ := hP
  obtain ⟨-, -, -, hnamed, -, -, -, hat⟩ := (Spec.applies_iff hf).mp happ
  obtain ⟨hg, hn⟩ := and_e (Cond.before_iff.mp (show (Jvm.Cond.and given_1 narrow_1).before args s = true from hpre))
  obtain ⟨gg1, gg2⟩ := and_e hg
  obtain ⟨gg3, gg4⟩ := and_e gg2
  obtain ⟨gg5, gg6⟩ := and_e gg4
  obtain ⟨gg7, gg8⟩ := and_e gg6
  obtain ⟨w0, w1, w2, w3, rfl⟩ : ∃ w0 w1 w2 w3 : Value, args = #[w0, w1, w2, w3] := by
    have hs : args.size = 4 := by simpa [Cond.value, given_1] using gg1
    obtain ⟨L⟩ := args
    match L, hs with
    | [w0, w1, w2, w3], _ => exact ⟨w0, w1, w2, w3, rfl⟩
  have hw := fun d (hd : d ∈ tables_1) => atoms_spec (ws := Jvm.Cond.code x code maxLocals ret :: tables_1) hat d (List.mem_cons_of_mem _ hd)
  obtain ⟨i0, ei0⟩ := is_v gg3
  obtain rfl : w0 = (.int i0) := Option.some.inj ei0
  obtain ⟨i1, ei1⟩ := is_v gg5
  obtain rfl : w1 = (.int i1) := Option.some.inj ei1
  obtain ⟨i2, ei2⟩ := is_v gg7
  obtain rfl : w2 = (.int i2) := Option.some.inj ei2
  obtain ⟨i3, ei3⟩ := is_v gg8
  obtain rfl : w3 = (.int i3) := Option.some.inj ei3
  obtain ⟨n, o, h1, h2, h3, _, L, rfl, ⟨rfl, N⟩, hq⟩ := rm0 l s _ hw tables_1 i0 i1 i2 i3 s.heap s.heap.size (Nat.le_refl _)  p e ha hc hk s m _ below hf ((Spec.applies_iff_loose hf).mp happ).1 ⟨rfl, State.Warmed39.refl s, rfl⟩ trivial
  refine ⟨n, _, h1, h2, h3, hpost _ _ _ _ _ _ ⟨Cond.after_iff.mpr rfl, Cond.after_iff.mpr (eq_i res_at (Term.int_eval (1)) rfl), trivial⟩ ⟨hq.1, hq.2.1, (hq.2.2.sift fun y hy => Or.inr (N y hy)).mono (by decide) (by decide)⟩⟩
theorem main_1_1 : Claimed_1_1 := comes_1 fun _ _ _ _ _ _ h hF => ⟨h.1, hF⟩
theorem main_1_2 : Claimed_1_2 := comes_1 fun _ _ _ _ _ _ h hF => ⟨h.2.1, hF⟩
end Jvm.Pilot.@@N@@
namespace Jvm.Pilot.@@N@@
open Jvm Jvm.ClassFile Sem Op Lib Jvm.Free Jvm.Stand Jvm.Pilot.@@N@@.Jvm.D
/-! MADE BY PROGRAM (witnessworld.py) out of the Statement's table words and the real class files: 9 classes; the members and pool entries that the words name. The judged class is class 1, her method 1. -/
namespace start1
open Jvm.ClassFile
def u (s : String) : CpInfo := .utf8 (stringToUtf16 s)
/-- a pool by its gaps: so many unusable entries, then the entry; so many at the end -/
def gap : Nat → List CpInfo → List CpInfo
  | 0, r => r
  | n + 1, r => .unusable :: gap n r
def poolList (es : List (Nat × CpInfo)) (last : Nat) : List CpInfo := es.foldr (fun e r => gap e.1 (e.2 :: r)) (gap last [])
def pool (es : List (Nat × CpInfo)) (last : Nat) : Array CpInfo := ⟨poolList es last⟩
def fileOf (pool : Array CpInfo) (this : Nat) (attrs : Array Attribute := #[]) (ms : Array MethodInfo := #[]) (fl : Nat := 33) (sup : Nat := 0) (ifs : Array Nat := #[]) (fds : Array FieldInfo := #[]) : ClassFile where
  minorVersion := 0
  majorVersion := 65
  constantPool := pool
  accessFlags := fl
  thisClass := this
  superClass := sup
  interfaces := ifs
  fields := fds
  methods := ms
  attributes := attrs
def plain (name : String) (sup : Option ClassId) : Class where
  name := name
  kind := .ordinary
  loader := none
  accessFlags := 33
  super := sup
  interfaces := #[]
  cf := none
  fields := #[]
  methods := #[]
  instanceTypes := #[]
  staticTypes := #[]
  resolved := #[]
  callSites := []
  init := .initialized
  statics := none
  mirror := none

def pool0 : Array CpInfo := pool [(5, u "<init>"), (0, u "()V"), (1, .class_ 10), (1, u "java/lang/Object")] 113

def k0m0 : Method := { name := "<init>", desc := "()V", sig := { parameters := [], returnType := none }, accessFlags := 1, code := none }
/-- java/lang/Object -/
def k0 : Class := { plain "java/lang/Object" none with
  accessFlags := 33
  interfaces := #[]
  cf := some (fileOf pool0 8 #[] #[{ accessFlags := 1, nameIndex := 5, descriptorIndex := 6, attributes := #[] }] 33 0 #[] #[])
  fields := #[]
  methods := #[k0m0]
  instanceTypes := #[]
  staticTypes := #[]
  resolved := Array.replicate 124 none
  statics := none }

def pool1 : Array CpInfo := pool [(2, .class_ 4), (1, u "java/lang/Object"), (0, u "<init>"), (0, u "()V"), (0, .methodref 8 9), (0, .class_ 10), (0, .nameAndType 11 12), (0, u "pithline/io/HttpResponseHeadLengthPinLaw"), (0, u "pick"), (0, u "(I)B"), (0, .integer 2147483647), (0, .methodref 8 15), (0, .nameAndType 16 17), (0, u "ends"), (0, u "([BII)Z"), (0, .methodref 19 20), (0, .class_ 21), (0, .nameAndType 22 23), (0, u "pithline/io/HttpResponse"), (0, u "headLength"), (0, u "([BI)I"), (2, u "law"), (0, u "(IIII)Z")] 5

def k1m0 : Method := { name := "<init>", desc := "()V", sig := { parameters := [], returnType := none }, accessFlags := 1, code := none }
def k1c1 : Code := { maxStack := 4, maxLocals := 7, code := code, exceptionTable := #[], attributes := #[] }
def k1m1 : Method := { name := "law", desc := "(IIII)Z", sig := { parameters := [.int, .int, .int, .int], returnType := some .boolean }, accessFlags := 9, code := some k1c1 }
def k1c2 : Code := { maxStack := 2, maxLocals := 2, code := method_3_code, exceptionTable := #[], attributes := #[] }
def k1m2 : Method := { name := "pick", desc := "(I)B", sig := { parameters := [.int], returnType := some .byte }, accessFlags := 10, code := some k1c2 }
def k1c3 : Code := { maxStack := 3, maxLocals := 3, code := method_4_code, exceptionTable := #[], attributes := #[] }
def k1m3 : Method := { name := "ends", desc := "([BII)Z", sig := { parameters := [(.array .byte), .int, .int], returnType := some .boolean }, accessFlags := 10, code := some k1c3 }
/-- pithline/io/HttpResponseHeadLengthPinLaw -/
def k1 : Class := { plain "pithline/io/HttpResponseHeadLengthPinLaw" (some 0) with
  accessFlags := 49
  interfaces := #[]
  cf := some (fileOf pool1 8 #[] #[{ accessFlags := 1, nameIndex := 5, descriptorIndex := 6, attributes := #[] }, { accessFlags := 9, nameIndex := 26, descriptorIndex := 27, attributes := #[] }, { accessFlags := 10, nameIndex := 11, descriptorIndex := 12, attributes := #[] }, { accessFlags := 10, nameIndex := 16, descriptorIndex := 17, attributes := #[] }] 49 2 #[] #[])
  fields := #[]
  methods := #[k1m0, k1m1, k1m2, k1m3]
  instanceTypes := #[]
  staticTypes := #[]
  resolved := Array.replicate 33 none
  statics := none }

def pool2 : Array CpInfo := pool [(2, .class_ 4), (1, u "java/lang/Object"), (3, .class_ 10), (1, u "pithline/io/HttpResponse"), (0, u "status"), (0, u "I"), (2, u "fields"), (0, u "Ljava/util/List;"), (2, u "bodyStart"), (271, .class_ 292), (0, u "pithline/io/HttpResponse$Deflate"), (51, u "MOST_HEAD_BYTES"), (2, u "VERSION_PREFIX"), (0, u "Ljava/lang/String;"), (0, u "STATUS_DIGITS"), (1, u "CHUNKED"), (0, u "TRANSFER_ENCODING"), (0, u "CONTENT_ENCODING"), (0, u "PIECE"), (0, u "MOST_SIZE_DIGITS"), (6, u "headLength"), (0, u "([BI)I")] 34

def k2c0 : Code := { maxStack := 3, maxLocals := 5, code := prog_70_method_2_code, exceptionTable := #[], attributes := #[] }
def k2m0 : Method := { name := "headLength", desc := "([BI)I", sig := { parameters := [(.array .byte), .int], returnType := some .int }, accessFlags := 8, code := some k2c0 }
/-- pithline/io/HttpResponse -/
def k2 : Class := { plain "pithline/io/HttpResponse" (some 0) with
  accessFlags := 48
  interfaces := #[]
  cf := some (fileOf pool2 8 #[.nestMembers #[291]] #[{ accessFlags := 8, nameIndex := 362, descriptorIndex := 363, attributes := #[] }] 48 2 #[] #[{ accessFlags := 24, nameIndex := 344, descriptorIndex := 12, attributes := #[] }, { accessFlags := 26, nameIndex := 347, descriptorIndex := 348, attributes := #[] }, { accessFlags := 26, nameIndex := 349, descriptorIndex := 12, attributes := #[] }, { accessFlags := 26, nameIndex := 351, descriptorIndex := 348, attributes := #[] }, { accessFlags := 26, nameIndex := 352, descriptorIndex := 348, attributes := #[] }, { accessFlags := 26, nameIndex := 353, descriptorIndex := 348, attributes := #[] }, { accessFlags := 26, nameIndex := 354, descriptorIndex := 12, attributes := #[] }, { accessFlags := 26, nameIndex := 355, descriptorIndex := 12, attributes := #[] }, { accessFlags := 18, nameIndex := 11, descriptorIndex := 12, attributes := #[] }, { accessFlags := 18, nameIndex := 15, descriptorIndex := 16, attributes := #[] }, { accessFlags := 18, nameIndex := 19, descriptorIndex := 12, attributes := #[] }])
  fields := #[{ name := "MOST_HEAD_BYTES", type := .int, accessFlags := 24, slot := 0, constantValue := 0 }, { name := "VERSION_PREFIX", type := (.object "java/lang/String"), accessFlags := 26, slot := 1, constantValue := 0 }, { name := "STATUS_DIGITS", type := .int, accessFlags := 26, slot := 2, constantValue := 0 }, { name := "CHUNKED", type := (.object "java/lang/String"), accessFlags := 26, slot := 3, constantValue := 0 }, { name := "TRANSFER_ENCODING", type := (.object "java/lang/String"), accessFlags := 26, slot := 4, constantValue := 0 }, { name := "CONTENT_ENCODING", type := (.object "java/lang/String"), accessFlags := 26, slot := 5, constantValue := 0 }, { name := "PIECE", type := .int, accessFlags := 26, slot := 6, constantValue := 0 }, { name := "MOST_SIZE_DIGITS", type := .int, accessFlags := 26, slot := 7, constantValue := 0 }, { name := "status", type := .int, accessFlags := 18, slot := 0, constantValue := 0 }, { name := "fields", type := (.object "java/util/List"), accessFlags := 18, slot := 1, constantValue := 0 }, { name := "bodyStart", type := .int, accessFlags := 18, slot := 2, constantValue := 0 }]
  methods := #[k2m0]
  instanceTypes := #[.int, (.object "java/util/List"), .int]
  staticTypes := #[.int, (.object "java/lang/String"), .int, (.object "java/lang/String"), (.object "java/lang/String"), (.object "java/lang/String"), .int, .int]
  resolved := Array.replicate 398 none
  statics := none }

def pool3 : Array CpInfo := pool [(1, u "java/lang/Cloneable"), (0, .class_ 1), (0, u "java/lang/Object"), (0, .class_ 3)] 3

/-- java/lang/Cloneable -/
def k3 : Class := { plain "java/lang/Cloneable" (some 0) with
  accessFlags := 1537
  interfaces := #[]
  cf := some (fileOf pool3 2 #[] #[] 1537 4 #[] #[])
  fields := #[]
  methods := #[]
  instanceTypes := #[]
  staticTypes := #[]
  resolved := Array.replicate 8 none
  statics := none }

def pool4 : Array CpInfo := pool [(1, u "java/io/Serializable"), (0, .class_ 1), (0, u "java/lang/Object"), (0, .class_ 3)] 3

/-- java/io/Serializable -/
def k4 : Class := { plain "java/io/Serializable" (some 0) with
  accessFlags := 1537
  interfaces := #[]
  cf := some (fileOf pool4 2 #[] #[] 1537 4 #[] #[])
  fields := #[]
  methods := #[]
  instanceTypes := #[]
  staticTypes := #[]
  resolved := Array.replicate 8 none
  statics := none }

/-- the primitive byte -/
def k5 : Class := { plain "byte" none with kind := .primitive 'B', accessFlags := 0x411 }
/-- [B -/
def k6 : Class := { plain "[B" (some 0) with kind := .array 5 .byte, interfaces := #[3, 4], accessFlags := 1041 }

/-- the primitive int -/
def k7 : Class := { plain "int" none with kind := .primitive 'I', accessFlags := 0x411 }
/-- [I -/
def k8 : Class := { plain "[I" (some 0) with kind := .array 7 .int, interfaces := #[3, 4], accessFlags := 1041 }

def heap : Heap := #[]
def classes : Array Class := #[k0, k1, k2, k3, k4, k5, k6, k7, k8]
def interned : List (Array UInt16 × Addr) := []
def slotsUsed : Nat := 0
def theMethod : MethodId := ⟨1, 1⟩
def args0 : Array Value := #[.int 5, .int 5, .int 5, .int 5]
def aboutOver (below : List Frame) : State where
  vm := { classes := classes, interned := interned.toArray }
  heap := heap
  slotsUsed := slotsUsed
  threads := #[{ frames := .invoking theMethod args0 :: below }]
def below0 : List Frame := [.native { method := ⟨0, 0⟩, args := #[] }]
def about1 : State := aboutOver below0
def p0 : Program := .bare "" "" ""
def e0 : Env := launch0.env 0 0 0
theorem w_frames : about1.frames = Frame.invoking theMethod args0 :: below0 := rfl
set_option maxRecDepth 65536 in
theorem w_args : argsFit about1.vm theMethod args0 = true := by decide +kernel
set_option maxRecDepth 65536 in
theorem w_heap : heapFits about1 = true := by decide +kernel
set_option maxRecDepth 65536 in
theorem w_runnable : about1.curStatus? = some .runnable := by decide +kernel
set_option maxRecDepth 65536 in
theorem w_alone : about1.alone = true := by decide +kernel
set_option maxRecDepth 65536 in
theorem w_named : about1.methodNamed? x = some theMethod := by decide +kernel
set_option maxRecDepth 65536 in
theorem w_hears : about1.hears theMethod below0 = true := by decide +kernel
set_option maxRecDepth 65536 in
theorem w_ripe : about1.ripe theMethod args0 below0 = true := by decide +kernel
theorem w_running : about1.status = .running := rfl
set_option maxRecDepth 65536 in
theorem w_room : about1.hasRoom e0.platform room_1 = true :=
  launch0.hasRoom_least _ room_1 (by decide +kernel) (by decide +kernel) (by decide +kernel) (by decide +kernel) (by decide +kernel) (by decide +kernel)
theorem allAtoms_all (ts : List Jvm.Cond) (a : Array Jvm.Value) (st : Jvm.State) : (allAtoms ts).before a st = ts.all (fun c => c.before a st) := by
  induction ts with
  | nil => rfl
  | cons c t ih =>
    show (Jvm.Cond.and c (allAtoms t)).before a st = _
    rw [Jvm.Cond.before_and, ih, List.all_cons]
def words1 : List Jvm.Cond := Jvm.Cond.code x code maxLocals ret :: tables_1
/-- a 'code' word, met by the world's own term for the bytes: nothing is compared byte by byte -/
theorem code_word {y : MethodName} {bytes : ByteArray} {mx : Nat} {rt : Option FieldType} {a : Array Value} {s : State} {m : MethodId} {meth : Method} {c : Code} (h1 : s.methodNamed? y = some m) (h2 : s.vm.method? m = some meth) (h3 : meth.code = some c) (h4 : c.code = bytes)
    (h5 : (c.maxLocals == mx && c.exceptionTable.isEmpty && decide (c.maxStack ≤ mostOperands) && decide (meth.sig.returnType = rt) && !meth.locks && decide (parseMethodDescriptor y.desc = some meth.sig)) = true) : (Jvm.Cond.code y bytes mx rt).before a s = true := by
  simp only [Bool.and_eq_true, beq_iff_eq, Bool.not_eq_true', decide_eq_true_eq] at h5
  obtain ⟨⟨⟨⟨⟨g1, g2⟩, g3⟩, g4⟩, g5⟩, g6⟩ := h5
  simp [Cond.before, Cond.holds, Cond.value, h1, h2, h3, h4, g1, g2, g3, g4, g5, g6]
def isCode : Jvm.Cond → Bool
  | .code _ _ _ _ => true
  | _ => false
theorem all_split {L : List Jvm.Cond} {P : Jvm.Cond → Bool} (h1 : L.all (fun c => isCode c || P c) = true) (h2 : ∀ c ∈ L.filter isCode, P c = true) : L.all P = true := by
  refine List.all_eq_true.mpr fun c hc => ?_
  have h := List.all_eq_true.mp h1 c hc
  rcases Bool.eq_false_or_eq_true (isCode c) with hi | hi
  · exact h2 c (List.mem_filter.mpr ⟨hc, hi⟩)
  · simpa [hi] using h
set_option maxRecDepth 65536 in
theorem w_c0 : (Jvm.Cond.code x code maxLocals ret).before args0 about1 = true := code_word (m := ⟨1, 1⟩) (meth := k1m1) (c := k1c1) (by decide +kernel) rfl rfl rfl (by decide +kernel)
set_option maxRecDepth 65536 in
theorem w_c1 : (Jvm.Cond.code ({ cls := "pithline/io/HttpResponseHeadLengthPinLaw", name := "pick", desc := "(I)B" } : Jvm.MethodName) method_3_code (2 : Nat) (Option.some Jvm.ClassFile.FieldType.byte)).before args0 about1 = true := code_word (m := ⟨1, 2⟩) (meth := k1m2) (c := k1c2) (by decide +kernel) rfl rfl rfl (by decide +kernel)
set_option maxRecDepth 65536 in
theorem w_c2 : (Jvm.Cond.code ({ cls := "pithline/io/HttpResponseHeadLengthPinLaw", name := "ends", desc := "([BII)Z" } : Jvm.MethodName) method_4_code (3 : Nat) (Option.some Jvm.ClassFile.FieldType.boolean)).before args0 about1 = true := code_word (m := ⟨1, 3⟩) (meth := k1m3) (c := k1c3) (by decide +kernel) rfl rfl rfl (by decide +kernel)
set_option maxRecDepth 65536 in
theorem w_c3 : (Jvm.Cond.code ({ cls := "pithline/io/HttpResponse", name := "headLength", desc := "([BI)I" } : Jvm.MethodName) prog_70_method_2_code (5 : Nat) (Option.some Jvm.ClassFile.FieldType.int)).before args0 about1 = true := code_word (m := ⟨2, 0⟩) (meth := k2m0) (c := k2c0) (by decide +kernel) rfl rfl rfl (by decide +kernel)
def codes1 : List Jvm.Cond := [Jvm.Cond.code x code maxLocals ret, Jvm.Cond.code ({ cls := "pithline/io/HttpResponseHeadLengthPinLaw", name := "pick", desc := "(I)B" } : Jvm.MethodName) method_3_code (2 : Nat) (Option.some Jvm.ClassFile.FieldType.byte), Jvm.Cond.code ({ cls := "pithline/io/HttpResponseHeadLengthPinLaw", name := "ends", desc := "([BII)Z" } : Jvm.MethodName) method_4_code (3 : Nat) (Option.some Jvm.ClassFile.FieldType.boolean), Jvm.Cond.code ({ cls := "pithline/io/HttpResponse", name := "headLength", desc := "([BI)I" } : Jvm.MethodName) prog_70_method_2_code (5 : Nat) (Option.some Jvm.ClassFile.FieldType.int)]
set_option maxRecDepth 65536 in
theorem codes_eq : words1.filter isCode = codes1 := rfl
theorem w_codes : ∀ c ∈ words1.filter isCode, c.before args0 about1 = true := by
  rw [codes_eq]
  intro c hc
  simp only [codes1, List.mem_cons, List.not_mem_nil, or_false] at hc
  rcases hc with rfl | rfl | rfl | rfl
  · exact w_c0
  · exact w_c1
  · exact w_c2
  · exact w_c3
set_option maxRecDepth 65536 in
theorem w_t1 : words1.all (fun c => isCode c || c.before args0 about1) = true := by decide +kernel
theorem w_tables : (allAtoms (Jvm.Cond.code x code maxLocals ret :: tables_1)).before args0 about1 = true := by
  rw [allAtoms_all]
  show words1.all (fun c => c.before args0 about1) = true
  refine all_split ?_ w_codes
  rw [w_t1]
set_option maxRecDepth 65536 in
theorem w_case : (Jvm.Cond.and given_1 narrow_1).before args0 about1 = true := by decide +kernel
theorem w_applies : (headSpec (Jvm.Cond.code x code maxLocals ret :: tables_1) room_1).applies x e0.platform about1 = true :=
  (Spec.applies_iff w_frames).mpr ⟨w_running, w_runnable, w_alone, w_named, w_hears, w_ripe, w_room, w_tables⟩
theorem atStart : AtStart classFile x code maxLocals ret World_1 tables_1 room_1 Calls_1 rest_1 Pre_1 launch0 p0 e0 about1 theMethod args0 below0 :=
  ⟨lists_1, trivial, launch0.admits_env _ _ _, launch0.least_env, fairChoices_fair.cas, fairChoices_fair.clock, w_frames, w_args, w_heap, w_applies, trivial, trivial, w_case⟩
end start1
theorem witness_1 : WitnessClaimed_1 := ⟨start1.p0, start1.e0, start1.about1, start1.theMethod, start1.args0, start1.below0, start1.atStart⟩
end Jvm.Pilot.@@N@@
