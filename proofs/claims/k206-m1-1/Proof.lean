import JvmDerived
import JvmDerived.Pilot.@@N@@Statement
import JvmDerived.Pilot.@@N@@Code
set_option linter.unusedVariables false
set_option linter.unusedSimpArgs false
namespace Jvm.RoadKit
open Sem ClassFile Op Lib Jvm.Stand Jvm.Free Jvm.LawKit
section New
variable {p : Program} {l : Launch} {e : Env} {R : Room} {s : State} {m : MethodId} {args : Array Value} {below : List Frame} {meth : Method} {c : Code} {T : State} {locs : List Loc} {cells slots : Nat}
theorem retI (X : Stand p l e R s m args below meth c T locs cells slots) (hx : p.tables.exec = Jvm.exec) {pc : Nat} {Ls : Array Slot} {z : Int32} {rest : List Value} (hret : meth.sig.returnType = some .int) (hd : decode c.code pc = .ok (.ireturn, 1)) {fs : List Frame}
    (hl : ∀ (f : JFrame) (acts : List Action), f.method = m → f.locked = none → f.entered = [] → (doReturn e (T.setTop f) acts (some (.int z))).1 = T.setFrames fs) : Steps p.tables e below (T.setTop (mkF m pc Ls (.int z :: rest))) (T.setFrames fs) := by
  have hm' : T.vm.method? m = some meth := X.method'
  have hn : narrow .int (.int z) = .int z := rfl
  show Steps p.tables e below (T.setTop { method := m, pc := pc, locals := Ls, stack := _ :: rest, locked := none }) _
  jvm_step X.here [X.here.top, hx, hd, hm', hret, hn]
  first | (intro acts; rw [hl _ acts rfl rfl rfl]) | rw [hl _ _ rfl rfl rfl]
  exact Steps.refl _
theorem retL (X : Stand p l e R s m args below meth c T locs cells slots) (hx : p.tables.exec = Jvm.exec) {pc : Nat} {Ls : Array Slot} {z : Int64} {rest : List Value} (hret : meth.sig.returnType = some .long) (hd : decode c.code pc = .ok (.lreturn, 1)) {fs : List Frame}
    (hl : ∀ (f : JFrame) (acts : List Action), f.method = m → f.locked = none → f.entered = [] → (doReturn e (T.setTop f) acts (some (.long z))).1 = T.setFrames fs) : Steps p.tables e below (T.setTop (mkF m pc Ls (.long z :: rest))) (T.setFrames fs) := by
  have hm' : T.vm.method? m = some meth := X.method'
  have hn : narrow .long (.long z) = .long z := rfl
  show Steps p.tables e below (T.setTop { method := m, pc := pc, locals := Ls, stack := _ :: rest, locked := none }) _
  jvm_step X.here [X.here.top, hx, hd, hm', hret, hn]
  first | (intro acts; rw [hl _ acts rfl rfl rfl]) | rw [hl _ _ rfl rfl rfl]
  exact Steps.refl _
end New
end Jvm.RoadKit
namespace Jvm.Pilot.@@N@@
open Jvm Jvm.ClassFile Sem Op Lib Jvm.Free Jvm.Stand Jvm.LawKit Jvm.RoadKit Bundle Jvm.Pilot.@@N@@.Jvm.D
/-- the run comes from pc, with these locals and this stack, to t -/
abbrev SS (p : Program) (e : Env) (below : List Frame) (m : MethodId) (T : State) (pc : Nat) (ls : Array Slot) (st : List Value) (t : State) : Prop := Steps p.tables e below (T.setTop (mkF m pc ls st)) t
/-- a method that writes nothing and returns an int -/
def QI (r : Int32) (h0 : Heap) (n0 : Nat) (v : Option Value) (h : Heap) (L : List Loc) : Prop := v = some (.int r) ∧ Fr n0 L ∧ h = h0
def QL (r : Int64) (h0 : Heap) (n0 : Nat) (v : Option Value) (h : Heap) (L : List Loc) : Prop := v = some (.long r) ∧ Fr n0 L ∧ h = h0
def QV (h0 : Heap) (n0 : Nat) (v : Option Value) (h : Heap) (L : List Loc) : Prop := v = none ∧ Fr n0 L ∧ h = h0
/-- .. that may load String constants -/
def QC (r : Int32) (W0 : Vm → Heap → Prop) (h0 : Heap) (n0 : Nat) (v : Option Value) (h : Heap) (vm : Vm) (L : List Loc) : Prop := v = some (.int r) ∧ Fr n0 L ∧ Ext h0 h ∧ W0 vm h
def QIS (r : Int32) (h0 : Heap) (n0 : Nat) (v : Option Value) (h : Heap) (L : List Loc) : Prop := v = some (.int r) ∧ Fr n0 L ∧ Ext h0 h
theorem own_ext {a b c : Heap} (h : Ext a b) (k : Ext b c) : Ext a c := ⟨Nat.le_trans h.1 k.1, fun x y q => k.2 _ _ (h.2 _ _ q)⟩
theorem own_extw {a h h' : Heap} {x : Addr} {sl : Nat} {v : Value} (E : Ext a h) (W : Wr h h' x sl v) (q : a.size ≤ x) : Ext a h' := by
  have K := Keep.of_wr W
  refine ⟨Nat.le_trans E.1 K.1, fun y c hc => K.2.1 _ _ (E.2 _ _ hc) fun hm => ?_⟩
  have hl := (Array.getElem?_eq_some_iff.mp hc).1
  rw [List.mem_singleton] at hm
  rw [hm] at hl
  exact absurd hl (Nat.not_lt.mpr q)
def QE (n0 : Nat) (v : Option Value) (h : Heap) (L : List Loc) : Prop := v = some (.int 1) ∧ Fr n0 L
theorem d1_0 : decode prog_89_method_12_code 0 = .ok (.iload_n 0, 1) := by decide +kernel
theorem d1_1 : decode prog_89_method_12_code 1 = .ok (.bipush 48, 2) := by decide +kernel
theorem d1_3 : decode prog_89_method_12_code 3 = .ok (.if_icmp .lt 13, 3) := by decide +kernel
theorem d1_6 : decode prog_89_method_12_code 6 = .ok (.iload_n 0, 1) := by decide +kernel
theorem d1_7 : decode prog_89_method_12_code 7 = .ok (.bipush 57, 2) := by decide +kernel
theorem d1_9 : decode prog_89_method_12_code 9 = .ok (.if_icmp .gt 7, 3) := by decide +kernel
theorem d1_12 : decode prog_89_method_12_code 12 = .ok (.iconst 1, 1) := by decide +kernel
theorem d1_13 : decode prog_89_method_12_code 13 = .ok (.goto 4, 3) := by decide +kernel
theorem d1_16 : decode prog_89_method_12_code 16 = .ok (.iconst 0, 1) := by decide +kernel
theorem d1_17 : decode prog_89_method_12_code 17 = .ok (.ireturn, 1) := by decide +kernel
theorem pn_1 : plainName "org/novate/Syntax" = true := by first | (simp [plainName, overriddenIn]; done) | decide +kernel
theorem ef_1 (m : MethodId) (p1 : Int32) : entryFrame m #[(.int p1)] 1 = mkF m 0 #[iv p1] [] := by first | (simp [entryFrame, mkF, argsToLocals, Value.category]; done) | rfl
def f1 (p1 : Int32)  : Int32 := (if p1 < (48 : Int32) then (0 : Int32) else (if (57 : Int32) < p1 then (0 : Int32) else (1 : Int32)))
set_option maxRecDepth 65536 in
set_option maxHeartbeats 40000000 in
theorem rm1 (l : Launch) (Z : State) (a0 : Array Value) (hw : ∀ d ∈ tables_1, d.before a0 Z = true) (ws : List Jvm.Cond) (p1 : Int32)  (h0 : Heap) (n0 : Nat) (Z0 : n0 ≤ h0.size)  :
    MetFree l (⟨"org/novate/Syntax", "isDigit", "(I)Z"⟩ : MethodName) (head1 (Jvm.Cond.code (⟨"org/novate/Syntax", "isDigit", "(I)Z"⟩ : MethodName) prog_89_method_12_code 1 (some .boolean) :: ws) ({ frames := 0, cells := 0, slots := 0, locals := 0 } : Room)) (fun a U => a = #[(.int p1)] ∧ Z.Warmed39 U.vm ∧ U.heap = h0) (fun _ _ _ _ _ => True) (fun _ U o U' => ∃ v L, o = .returned v ∧ QI (f1 p1) h0 n0 v U'.heap L ∧ FrameEnd U o U' L ({ frames := 0, cells := 0, slots := 0, locals := 0 } : Room).cells ({ frames := 0, cells := 0, slots := 0, locals := 0 } : Room).slots) := by
  refine MetFree.of_bodySF (plainFor_of_name pn_1) hisR ?_
  intro p e s m args below meth c s₁ Bd hml0 hP hK
  obtain ⟨rfl, hZ, hh⟩ := hP
  have hx := Bd.exec
  have hby := Bd.bytes
  have hml : c.maxLocals = 1 := hml0
  have hown : s.vm.findClass "org/novate/Syntax" = some m.cls := findClass_of_methodNamed Bd.named
  have hnm := (name_of_methodNamed Bd.named Bd.method).1
  have X0 : Stand p l e ({ frames := 0, cells := 0, slots := 0, locals := 0 } : Room) s m #[(.int p1)] below meth c s₁ [] 0 0 := Stand.of_body Bd
  have e0 : s₁.heap = h0 := by rw [← hh, Bd.state]; rfl
  have N0 := Fr.nil n0
  obtain ⟨B, hB, pre0⟩ : ∃ B : State → Prop, (∀ t, B t → Steps p.tables e below (s₁.setTop (entryFrame m #[(.int p1)] 1)) t) ∧ ∀ t, SS p e below m s₁ 0 #[iv p1] [] t → B t := ⟨_, fun _ q => q, fun t kk => castTop (ef_1 m p1) kk⟩
  have pre1 : ∀ t, SS p e below m s₁ 3 #[iv p1] [(.int (48 : Int32)), (.int p1)] t → B t := fun t kk => pre0 t (by
    show SS p e below m s₁ 0 #[iv p1] [] _
    refine XS.iloadN X0.here hx rfl (hb hby d1_0) rfl ?_
    show SS p e below m s₁ 1 #[iv p1] [(.int p1)] _
    refine XS.bipush X0.here hx rfl (hb hby d1_1) ?_
    show SS p e below m s₁ 3 #[iv p1] [(.int (48 : Int32)), (.int p1)] _
    exact kk)
  by_cases hc2 : p1 < (48 : Int32)
  · have pre3 : ∀ t, SS p e below m s₁ 17 #[iv p1] [(.int (0 : Int32))] t → B t := fun t kk => pre1 t (by
      refine XS.icmpYes X0.here hx rfl (pc0 := 3) (pc' := 16) rfl (hb hby d1_3) rfl (tlt hc2).1 (by decide) (by decide) ?_
      show SS p e below m s₁ 16 #[iv p1] [] _
      refine XS.iconst X0.here hx rfl (hb hby d1_16) ?_
      show SS p e below m s₁ 17 #[iv p1] [(.int (0 : Int32))] _
      exact kk)
    obtain ⟨fs, hr, hrun, hended, hW, hsame⟩ := X0.leave (v := some (.int (0 : Int32))) (fun h => by rw [Bd.returns] at h; cases h)
    refine ⟨_, _, hB _ (pre3 _ ?_), hrun, hended, _, _, rfl, ?_, ⟨_, rfl⟩, hW, hsame.mono (by decide) (by decide)⟩
    · exact retN X0 hx (t := .boolean) Bd.returns (by simp) (hb hby d1_17) hr
    · exact ⟨by show _ = some (Value.int (f1 p1)); rw [f1, if_pos hc2], N0, e0⟩
  · have pre4 : ∀ t, SS p e below m s₁ 9 #[iv p1] [(.int (57 : Int32)), (.int p1)] t → B t := fun t kk => pre1 t (by
      refine XS.icmpNo X0.here hx rfl (hb hby d1_3) rfl (flt hc2).1 ?_
      show SS p e below m s₁ 6 #[iv p1] [] _
      refine XS.iloadN X0.here hx rfl (hb hby d1_6) rfl ?_
      show SS p e below m s₁ 7 #[iv p1] [(.int p1)] _
      refine XS.bipush X0.here hx rfl (hb hby d1_7) ?_
      show SS p e below m s₁ 9 #[iv p1] [(.int (57 : Int32)), (.int p1)] _
      exact kk)
    by_cases hc5 : (57 : Int32) < p1
    · have pre6 : ∀ t, SS p e below m s₁ 17 #[iv p1] [(.int (0 : Int32))] t → B t := fun t kk => pre4 t (by
        refine XS.icmpYes X0.here hx rfl (pc0 := 9) (pc' := 16) rfl (hb hby d1_9) rfl (tlt hc5).2.2.1 (by decide) (by decide) ?_
        show SS p e below m s₁ 16 #[iv p1] [] _
        refine XS.iconst X0.here hx rfl (hb hby d1_16) ?_
        show SS p e below m s₁ 17 #[iv p1] [(.int (0 : Int32))] _
        exact kk)
      obtain ⟨fs, hr, hrun, hended, hW, hsame⟩ := X0.leave (v := some (.int (0 : Int32))) (fun h => by rw [Bd.returns] at h; cases h)
      refine ⟨_, _, hB _ (pre6 _ ?_), hrun, hended, _, _, rfl, ?_, ⟨_, rfl⟩, hW, hsame.mono (by decide) (by decide)⟩
      · exact retN X0 hx (t := .boolean) Bd.returns (by simp) (hb hby d1_17) hr
      · exact ⟨by show _ = some (Value.int (f1 p1)); rw [f1, if_neg hc2, if_pos hc5], N0, e0⟩
    · have pre7 : ∀ t, SS p e below m s₁ 17 #[iv p1] [(.int (1 : Int32))] t → B t := fun t kk => pre4 t (by
        refine XS.icmpNo X0.here hx rfl (hb hby d1_9) rfl (flt hc5).2.2.1 ?_
        show SS p e below m s₁ 12 #[iv p1] [] _
        refine XS.iconst X0.here hx rfl (hb hby d1_12) ?_
        show SS p e below m s₁ 13 #[iv p1] [(.int (1 : Int32))] _
        refine XS.goto X0.here hx rfl (pc0 := 13) (pc' := 17) rfl (hb hby d1_13) (by decide) (by decide) ?_
        show SS p e below m s₁ 17 #[iv p1] [(.int (1 : Int32))] _
        exact kk)
      obtain ⟨fs, hr, hrun, hended, hW, hsame⟩ := X0.leave (v := some (.int (1 : Int32))) (fun h => by rw [Bd.returns] at h; cases h)
      refine ⟨_, _, hB _ (pre7 _ ?_), hrun, hended, _, _, rfl, ?_, ⟨_, rfl⟩, hW, hsame.mono (by decide) (by decide)⟩
      · exact retN X0 hx (t := .boolean) Bd.returns (by simp) (hb hby d1_17) hr
      · exact ⟨by show _ = some (Value.int (f1 p1)); rw [f1, if_neg hc2, if_neg hc5], N0, e0⟩
theorem d2_0 : decode method_2_code 0 = .ok (.iload_n 0, 1) := by decide +kernel
theorem d2_1 : decode method_2_code 1 = .ok (.bipush 48, 2) := by decide +kernel
theorem d2_3 : decode method_2_code 3 = .ok (.if_icmp .eq 57, 3) := by decide +kernel
theorem d2_6 : decode method_2_code 6 = .ok (.iload_n 0, 1) := by decide +kernel
theorem d2_7 : decode method_2_code 7 = .ok (.bipush 49, 2) := by decide +kernel
theorem d2_9 : decode method_2_code 9 = .ok (.if_icmp .eq 51, 3) := by decide +kernel
theorem d2_12 : decode method_2_code 12 = .ok (.iload_n 0, 1) := by decide +kernel
theorem d2_13 : decode method_2_code 13 = .ok (.bipush 50, 2) := by decide +kernel
theorem d2_15 : decode method_2_code 15 = .ok (.if_icmp .eq 45, 3) := by decide +kernel
theorem d2_18 : decode method_2_code 18 = .ok (.iload_n 0, 1) := by decide +kernel
theorem d2_19 : decode method_2_code 19 = .ok (.bipush 51, 2) := by decide +kernel
theorem d2_21 : decode method_2_code 21 = .ok (.if_icmp .eq 39, 3) := by decide +kernel
theorem d2_24 : decode method_2_code 24 = .ok (.iload_n 0, 1) := by decide +kernel
theorem d2_25 : decode method_2_code 25 = .ok (.bipush 52, 2) := by decide +kernel
theorem d2_27 : decode method_2_code 27 = .ok (.if_icmp .eq 33, 3) := by decide +kernel
theorem d2_30 : decode method_2_code 30 = .ok (.iload_n 0, 1) := by decide +kernel
theorem d2_31 : decode method_2_code 31 = .ok (.bipush 53, 2) := by decide +kernel
theorem d2_33 : decode method_2_code 33 = .ok (.if_icmp .eq 27, 3) := by decide +kernel
theorem d2_36 : decode method_2_code 36 = .ok (.iload_n 0, 1) := by decide +kernel
theorem d2_37 : decode method_2_code 37 = .ok (.bipush 54, 2) := by decide +kernel
theorem d2_39 : decode method_2_code 39 = .ok (.if_icmp .eq 21, 3) := by decide +kernel
theorem d2_42 : decode method_2_code 42 = .ok (.iload_n 0, 1) := by decide +kernel
theorem d2_43 : decode method_2_code 43 = .ok (.bipush 55, 2) := by decide +kernel
theorem d2_45 : decode method_2_code 45 = .ok (.if_icmp .eq 15, 3) := by decide +kernel
theorem d2_48 : decode method_2_code 48 = .ok (.iload_n 0, 1) := by decide +kernel
theorem d2_49 : decode method_2_code 49 = .ok (.bipush 56, 2) := by decide +kernel
theorem d2_51 : decode method_2_code 51 = .ok (.if_icmp .eq 9, 3) := by decide +kernel
theorem d2_54 : decode method_2_code 54 = .ok (.iload_n 0, 1) := by decide +kernel
theorem d2_55 : decode method_2_code 55 = .ok (.bipush 57, 2) := by decide +kernel
theorem d2_57 : decode method_2_code 57 = .ok (.if_icmp .ne 7, 3) := by decide +kernel
theorem d2_60 : decode method_2_code 60 = .ok (.iconst 1, 1) := by decide +kernel
theorem d2_61 : decode method_2_code 61 = .ok (.goto 4, 3) := by decide +kernel
theorem d2_64 : decode method_2_code 64 = .ok (.iconst 0, 1) := by decide +kernel
theorem d2_65 : decode method_2_code 65 = .ok (.ireturn, 1) := by decide +kernel
theorem pn_2 : plainName "org/novate/SyntaxIsDigitPinLaw" = true := by first | (simp [plainName, overriddenIn]; done) | decide +kernel
theorem ef_2 (m : MethodId) (p1 : Int32) : entryFrame m #[(.int p1)] 1 = mkF m 0 #[iv p1] [] := by first | (simp [entryFrame, mkF, argsToLocals, Value.category]; done) | rfl
def f2 (p1 : Int32)  : Int32 := (if p1 = (48 : Int32) then (1 : Int32) else (if p1 = (49 : Int32) then (1 : Int32) else (if p1 = (50 : Int32) then (1 : Int32) else (if p1 = (51 : Int32) then (1 : Int32) else (if p1 = (52 : Int32) then (1 : Int32) else (if p1 = (53 : Int32) then (1 : Int32) else (if p1 = (54 : Int32) then (1 : Int32) else (if p1 = (55 : Int32) then (1 : Int32) else (if p1 = (56 : Int32) then (1 : Int32) else (if p1 = (57 : Int32) then (1 : Int32) else (0 : Int32)))))))))))
set_option maxRecDepth 65536 in
set_option maxHeartbeats 40000000 in
theorem rm2 (l : Launch) (Z : State) (a0 : Array Value) (hw : ∀ d ∈ tables_1, d.before a0 Z = true) (ws : List Jvm.Cond) (p1 : Int32)  (h0 : Heap) (n0 : Nat) (Z0 : n0 ≤ h0.size)  :
    MetFree l (⟨"org/novate/SyntaxIsDigitPinLaw", "ref", "(I)Z"⟩ : MethodName) (head1 (Jvm.Cond.code (⟨"org/novate/SyntaxIsDigitPinLaw", "ref", "(I)Z"⟩ : MethodName) method_2_code 1 (some .boolean) :: ws) ({ frames := 0, cells := 0, slots := 0, locals := 0 } : Room)) (fun a U => a = #[(.int p1)] ∧ Z.Warmed39 U.vm ∧ U.heap = h0) (fun _ _ _ _ _ => True) (fun _ U o U' => ∃ v L, o = .returned v ∧ QI (f2 p1) h0 n0 v U'.heap L ∧ FrameEnd U o U' L ({ frames := 0, cells := 0, slots := 0, locals := 0 } : Room).cells ({ frames := 0, cells := 0, slots := 0, locals := 0 } : Room).slots) := by
  refine MetFree.of_bodySF (plainFor_of_name pn_2) hisR ?_
  intro p e s m args below meth c s₁ Bd hml0 hP hK
  obtain ⟨rfl, hZ, hh⟩ := hP
  have hx := Bd.exec
  have hby := Bd.bytes
  have hml : c.maxLocals = 1 := hml0
  have hown : s.vm.findClass "org/novate/SyntaxIsDigitPinLaw" = some m.cls := findClass_of_methodNamed Bd.named
  have hnm := (name_of_methodNamed Bd.named Bd.method).1
  have X0 : Stand p l e ({ frames := 0, cells := 0, slots := 0, locals := 0 } : Room) s m #[(.int p1)] below meth c s₁ [] 0 0 := Stand.of_body Bd
  have e0 : s₁.heap = h0 := by rw [← hh, Bd.state]; rfl
  have N0 := Fr.nil n0
  obtain ⟨B, hB, pre0⟩ : ∃ B : State → Prop, (∀ t, B t → Steps p.tables e below (s₁.setTop (entryFrame m #[(.int p1)] 1)) t) ∧ ∀ t, SS p e below m s₁ 0 #[iv p1] [] t → B t := ⟨_, fun _ q => q, fun t kk => castTop (ef_2 m p1) kk⟩
  have pre1 : ∀ t, SS p e below m s₁ 3 #[iv p1] [(.int (48 : Int32)), (.int p1)] t → B t := fun t kk => pre0 t (by
    show SS p e below m s₁ 0 #[iv p1] [] _
    refine XS.iloadN X0.here hx rfl (hb hby d2_0) rfl ?_
    show SS p e below m s₁ 1 #[iv p1] [(.int p1)] _
    refine XS.bipush X0.here hx rfl (hb hby d2_1) ?_
    show SS p e below m s₁ 3 #[iv p1] [(.int (48 : Int32)), (.int p1)] _
    exact kk)
  by_cases hc2 : p1 = (48 : Int32)
  · have pre3 : ∀ t, SS p e below m s₁ 65 #[iv p1] [(.int (1 : Int32))] t → B t := fun t kk => pre1 t (by
      refine XS.icmpYes X0.here hx rfl (pc0 := 3) (pc' := 60) rfl (hb hby d2_3) rfl (teq hc2).1 (by decide) (by decide) ?_
      show SS p e below m s₁ 60 #[iv p1] [] _
      refine XS.iconst X0.here hx rfl (hb hby d2_60) ?_
      show SS p e below m s₁ 61 #[iv p1] [(.int (1 : Int32))] _
      refine XS.goto X0.here hx rfl (pc0 := 61) (pc' := 65) rfl (hb hby d2_61) (by decide) (by decide) ?_
      show SS p e below m s₁ 65 #[iv p1] [(.int (1 : Int32))] _
      exact kk)
    obtain ⟨fs, hr, hrun, hended, hW, hsame⟩ := X0.leave (v := some (.int (1 : Int32))) (fun h => by rw [Bd.returns] at h; cases h)
    refine ⟨_, _, hB _ (pre3 _ ?_), hrun, hended, _, _, rfl, ?_, ⟨_, rfl⟩, hW, hsame.mono (by decide) (by decide)⟩
    · exact retN X0 hx (t := .boolean) Bd.returns (by simp) (hb hby d2_65) hr
    · exact ⟨by show _ = some (Value.int (f2 p1)); rw [f2, if_pos hc2], N0, e0⟩
  · have pre4 : ∀ t, SS p e below m s₁ 9 #[iv p1] [(.int (49 : Int32)), (.int p1)] t → B t := fun t kk => pre1 t (by
      refine XS.icmpNo X0.here hx rfl (hb hby d2_3) rfl (feq hc2).1 ?_
      show SS p e below m s₁ 6 #[iv p1] [] _
      refine XS.iloadN X0.here hx rfl (hb hby d2_6) rfl ?_
      show SS p e below m s₁ 7 #[iv p1] [(.int p1)] _
      refine XS.bipush X0.here hx rfl (hb hby d2_7) ?_
      show SS p e below m s₁ 9 #[iv p1] [(.int (49 : Int32)), (.int p1)] _
      exact kk)
    by_cases hc5 : p1 = (49 : Int32)
    · have pre6 : ∀ t, SS p e below m s₁ 65 #[iv p1] [(.int (1 : Int32))] t → B t := fun t kk => pre4 t (by
        refine XS.icmpYes X0.here hx rfl (pc0 := 9) (pc' := 60) rfl (hb hby d2_9) rfl (teq hc5).1 (by decide) (by decide) ?_
        show SS p e below m s₁ 60 #[iv p1] [] _
        refine XS.iconst X0.here hx rfl (hb hby d2_60) ?_
        show SS p e below m s₁ 61 #[iv p1] [(.int (1 : Int32))] _
        refine XS.goto X0.here hx rfl (pc0 := 61) (pc' := 65) rfl (hb hby d2_61) (by decide) (by decide) ?_
        show SS p e below m s₁ 65 #[iv p1] [(.int (1 : Int32))] _
        exact kk)
      obtain ⟨fs, hr, hrun, hended, hW, hsame⟩ := X0.leave (v := some (.int (1 : Int32))) (fun h => by rw [Bd.returns] at h; cases h)
      refine ⟨_, _, hB _ (pre6 _ ?_), hrun, hended, _, _, rfl, ?_, ⟨_, rfl⟩, hW, hsame.mono (by decide) (by decide)⟩
      · exact retN X0 hx (t := .boolean) Bd.returns (by simp) (hb hby d2_65) hr
      · exact ⟨by show _ = some (Value.int (f2 p1)); rw [f2, if_neg hc2, if_pos hc5], N0, e0⟩
    · have pre7 : ∀ t, SS p e below m s₁ 15 #[iv p1] [(.int (50 : Int32)), (.int p1)] t → B t := fun t kk => pre4 t (by
        refine XS.icmpNo X0.here hx rfl (hb hby d2_9) rfl (feq hc5).1 ?_
        show SS p e below m s₁ 12 #[iv p1] [] _
        refine XS.iloadN X0.here hx rfl (hb hby d2_12) rfl ?_
        show SS p e below m s₁ 13 #[iv p1] [(.int p1)] _
        refine XS.bipush X0.here hx rfl (hb hby d2_13) ?_
        show SS p e below m s₁ 15 #[iv p1] [(.int (50 : Int32)), (.int p1)] _
        exact kk)
      by_cases hc8 : p1 = (50 : Int32)
      · have pre9 : ∀ t, SS p e below m s₁ 65 #[iv p1] [(.int (1 : Int32))] t → B t := fun t kk => pre7 t (by
          refine XS.icmpYes X0.here hx rfl (pc0 := 15) (pc' := 60) rfl (hb hby d2_15) rfl (teq hc8).1 (by decide) (by decide) ?_
          show SS p e below m s₁ 60 #[iv p1] [] _
          refine XS.iconst X0.here hx rfl (hb hby d2_60) ?_
          show SS p e below m s₁ 61 #[iv p1] [(.int (1 : Int32))] _
          refine XS.goto X0.here hx rfl (pc0 := 61) (pc' := 65) rfl (hb hby d2_61) (by decide) (by decide) ?_
          show SS p e below m s₁ 65 #[iv p1] [(.int (1 : Int32))] _
          exact kk)
        obtain ⟨fs, hr, hrun, hended, hW, hsame⟩ := X0.leave (v := some (.int (1 : Int32))) (fun h => by rw [Bd.returns] at h; cases h)
        refine ⟨_, _, hB _ (pre9 _ ?_), hrun, hended, _, _, rfl, ?_, ⟨_, rfl⟩, hW, hsame.mono (by decide) (by decide)⟩
        · exact retN X0 hx (t := .boolean) Bd.returns (by simp) (hb hby d2_65) hr
        · exact ⟨by show _ = some (Value.int (f2 p1)); rw [f2, if_neg hc2, if_neg hc5, if_pos hc8], N0, e0⟩
      · have pre10 : ∀ t, SS p e below m s₁ 21 #[iv p1] [(.int (51 : Int32)), (.int p1)] t → B t := fun t kk => pre7 t (by
          refine XS.icmpNo X0.here hx rfl (hb hby d2_15) rfl (feq hc8).1 ?_
          show SS p e below m s₁ 18 #[iv p1] [] _
          refine XS.iloadN X0.here hx rfl (hb hby d2_18) rfl ?_
          show SS p e below m s₁ 19 #[iv p1] [(.int p1)] _
          refine XS.bipush X0.here hx rfl (hb hby d2_19) ?_
          show SS p e below m s₁ 21 #[iv p1] [(.int (51 : Int32)), (.int p1)] _
          exact kk)
        by_cases hc11 : p1 = (51 : Int32)
        · have pre12 : ∀ t, SS p e below m s₁ 65 #[iv p1] [(.int (1 : Int32))] t → B t := fun t kk => pre10 t (by
            refine XS.icmpYes X0.here hx rfl (pc0 := 21) (pc' := 60) rfl (hb hby d2_21) rfl (teq hc11).1 (by decide) (by decide) ?_
            show SS p e below m s₁ 60 #[iv p1] [] _
            refine XS.iconst X0.here hx rfl (hb hby d2_60) ?_
            show SS p e below m s₁ 61 #[iv p1] [(.int (1 : Int32))] _
            refine XS.goto X0.here hx rfl (pc0 := 61) (pc' := 65) rfl (hb hby d2_61) (by decide) (by decide) ?_
            show SS p e below m s₁ 65 #[iv p1] [(.int (1 : Int32))] _
            exact kk)
          obtain ⟨fs, hr, hrun, hended, hW, hsame⟩ := X0.leave (v := some (.int (1 : Int32))) (fun h => by rw [Bd.returns] at h; cases h)
          refine ⟨_, _, hB _ (pre12 _ ?_), hrun, hended, _, _, rfl, ?_, ⟨_, rfl⟩, hW, hsame.mono (by decide) (by decide)⟩
          · exact retN X0 hx (t := .boolean) Bd.returns (by simp) (hb hby d2_65) hr
          · exact ⟨by show _ = some (Value.int (f2 p1)); rw [f2, if_neg hc2, if_neg hc5, if_neg hc8, if_pos hc11], N0, e0⟩
        · have pre13 : ∀ t, SS p e below m s₁ 27 #[iv p1] [(.int (52 : Int32)), (.int p1)] t → B t := fun t kk => pre10 t (by
            refine XS.icmpNo X0.here hx rfl (hb hby d2_21) rfl (feq hc11).1 ?_
            show SS p e below m s₁ 24 #[iv p1] [] _
            refine XS.iloadN X0.here hx rfl (hb hby d2_24) rfl ?_
            show SS p e below m s₁ 25 #[iv p1] [(.int p1)] _
            refine XS.bipush X0.here hx rfl (hb hby d2_25) ?_
            show SS p e below m s₁ 27 #[iv p1] [(.int (52 : Int32)), (.int p1)] _
            exact kk)
          by_cases hc14 : p1 = (52 : Int32)
          · have pre15 : ∀ t, SS p e below m s₁ 65 #[iv p1] [(.int (1 : Int32))] t → B t := fun t kk => pre13 t (by
              refine XS.icmpYes X0.here hx rfl (pc0 := 27) (pc' := 60) rfl (hb hby d2_27) rfl (teq hc14).1 (by decide) (by decide) ?_
              show SS p e below m s₁ 60 #[iv p1] [] _
              refine XS.iconst X0.here hx rfl (hb hby d2_60) ?_
              show SS p e below m s₁ 61 #[iv p1] [(.int (1 : Int32))] _
              refine XS.goto X0.here hx rfl (pc0 := 61) (pc' := 65) rfl (hb hby d2_61) (by decide) (by decide) ?_
              show SS p e below m s₁ 65 #[iv p1] [(.int (1 : Int32))] _
              exact kk)
            obtain ⟨fs, hr, hrun, hended, hW, hsame⟩ := X0.leave (v := some (.int (1 : Int32))) (fun h => by rw [Bd.returns] at h; cases h)
            refine ⟨_, _, hB _ (pre15 _ ?_), hrun, hended, _, _, rfl, ?_, ⟨_, rfl⟩, hW, hsame.mono (by decide) (by decide)⟩
            · exact retN X0 hx (t := .boolean) Bd.returns (by simp) (hb hby d2_65) hr
            · exact ⟨by show _ = some (Value.int (f2 p1)); rw [f2, if_neg hc2, if_neg hc5, if_neg hc8, if_neg hc11, if_pos hc14], N0, e0⟩
          · have pre16 : ∀ t, SS p e below m s₁ 33 #[iv p1] [(.int (53 : Int32)), (.int p1)] t → B t := fun t kk => pre13 t (by
              refine XS.icmpNo X0.here hx rfl (hb hby d2_27) rfl (feq hc14).1 ?_
              show SS p e below m s₁ 30 #[iv p1] [] _
              refine XS.iloadN X0.here hx rfl (hb hby d2_30) rfl ?_
              show SS p e below m s₁ 31 #[iv p1] [(.int p1)] _
              refine XS.bipush X0.here hx rfl (hb hby d2_31) ?_
              show SS p e below m s₁ 33 #[iv p1] [(.int (53 : Int32)), (.int p1)] _
              exact kk)
            by_cases hc17 : p1 = (53 : Int32)
            · have pre18 : ∀ t, SS p e below m s₁ 65 #[iv p1] [(.int (1 : Int32))] t → B t := fun t kk => pre16 t (by
                refine XS.icmpYes X0.here hx rfl (pc0 := 33) (pc' := 60) rfl (hb hby d2_33) rfl (teq hc17).1 (by decide) (by decide) ?_
                show SS p e below m s₁ 60 #[iv p1] [] _
                refine XS.iconst X0.here hx rfl (hb hby d2_60) ?_
                show SS p e below m s₁ 61 #[iv p1] [(.int (1 : Int32))] _
                refine XS.goto X0.here hx rfl (pc0 := 61) (pc' := 65) rfl (hb hby d2_61) (by decide) (by decide) ?_
                show SS p e below m s₁ 65 #[iv p1] [(.int (1 : Int32))] _
                exact kk)
              obtain ⟨fs, hr, hrun, hended, hW, hsame⟩ := X0.leave (v := some (.int (1 : Int32))) (fun h => by rw [Bd.returns] at h; cases h)
              refine ⟨_, _, hB _ (pre18 _ ?_), hrun, hended, _, _, rfl, ?_, ⟨_, rfl⟩, hW, hsame.mono (by decide) (by decide)⟩
              · exact retN X0 hx (t := .boolean) Bd.returns (by simp) (hb hby d2_65) hr
              · exact ⟨by show _ = some (Value.int (f2 p1)); rw [f2, if_neg hc2, if_neg hc5, if_neg hc8, if_neg hc11, if_neg hc14, if_pos hc17], N0, e0⟩
            · have pre19 : ∀ t, SS p e below m s₁ 39 #[iv p1] [(.int (54 : Int32)), (.int p1)] t → B t := fun t kk => pre16 t (by
                refine XS.icmpNo X0.here hx rfl (hb hby d2_33) rfl (feq hc17).1 ?_
                show SS p e below m s₁ 36 #[iv p1] [] _
                refine XS.iloadN X0.here hx rfl (hb hby d2_36) rfl ?_
                show SS p e below m s₁ 37 #[iv p1] [(.int p1)] _
                refine XS.bipush X0.here hx rfl (hb hby d2_37) ?_
                show SS p e below m s₁ 39 #[iv p1] [(.int (54 : Int32)), (.int p1)] _
                exact kk)
              by_cases hc20 : p1 = (54 : Int32)
              · have pre21 : ∀ t, SS p e below m s₁ 65 #[iv p1] [(.int (1 : Int32))] t → B t := fun t kk => pre19 t (by
                  refine XS.icmpYes X0.here hx rfl (pc0 := 39) (pc' := 60) rfl (hb hby d2_39) rfl (teq hc20).1 (by decide) (by decide) ?_
                  show SS p e below m s₁ 60 #[iv p1] [] _
                  refine XS.iconst X0.here hx rfl (hb hby d2_60) ?_
                  show SS p e below m s₁ 61 #[iv p1] [(.int (1 : Int32))] _
                  refine XS.goto X0.here hx rfl (pc0 := 61) (pc' := 65) rfl (hb hby d2_61) (by decide) (by decide) ?_
                  show SS p e below m s₁ 65 #[iv p1] [(.int (1 : Int32))] _
                  exact kk)
                obtain ⟨fs, hr, hrun, hended, hW, hsame⟩ := X0.leave (v := some (.int (1 : Int32))) (fun h => by rw [Bd.returns] at h; cases h)
                refine ⟨_, _, hB _ (pre21 _ ?_), hrun, hended, _, _, rfl, ?_, ⟨_, rfl⟩, hW, hsame.mono (by decide) (by decide)⟩
                · exact retN X0 hx (t := .boolean) Bd.returns (by simp) (hb hby d2_65) hr
                · exact ⟨by show _ = some (Value.int (f2 p1)); rw [f2, if_neg hc2, if_neg hc5, if_neg hc8, if_neg hc11, if_neg hc14, if_neg hc17, if_pos hc20], N0, e0⟩
              · have pre22 : ∀ t, SS p e below m s₁ 45 #[iv p1] [(.int (55 : Int32)), (.int p1)] t → B t := fun t kk => pre19 t (by
                  refine XS.icmpNo X0.here hx rfl (hb hby d2_39) rfl (feq hc20).1 ?_
                  show SS p e below m s₁ 42 #[iv p1] [] _
                  refine XS.iloadN X0.here hx rfl (hb hby d2_42) rfl ?_
                  show SS p e below m s₁ 43 #[iv p1] [(.int p1)] _
                  refine XS.bipush X0.here hx rfl (hb hby d2_43) ?_
                  show SS p e below m s₁ 45 #[iv p1] [(.int (55 : Int32)), (.int p1)] _
                  exact kk)
                by_cases hc23 : p1 = (55 : Int32)
                · have pre24 : ∀ t, SS p e below m s₁ 65 #[iv p1] [(.int (1 : Int32))] t → B t := fun t kk => pre22 t (by
                    refine XS.icmpYes X0.here hx rfl (pc0 := 45) (pc' := 60) rfl (hb hby d2_45) rfl (teq hc23).1 (by decide) (by decide) ?_
                    show SS p e below m s₁ 60 #[iv p1] [] _
                    refine XS.iconst X0.here hx rfl (hb hby d2_60) ?_
                    show SS p e below m s₁ 61 #[iv p1] [(.int (1 : Int32))] _
                    refine XS.goto X0.here hx rfl (pc0 := 61) (pc' := 65) rfl (hb hby d2_61) (by decide) (by decide) ?_
                    show SS p e below m s₁ 65 #[iv p1] [(.int (1 : Int32))] _
                    exact kk)
                  obtain ⟨fs, hr, hrun, hended, hW, hsame⟩ := X0.leave (v := some (.int (1 : Int32))) (fun h => by rw [Bd.returns] at h; cases h)
                  refine ⟨_, _, hB _ (pre24 _ ?_), hrun, hended, _, _, rfl, ?_, ⟨_, rfl⟩, hW, hsame.mono (by decide) (by decide)⟩
                  · exact retN X0 hx (t := .boolean) Bd.returns (by simp) (hb hby d2_65) hr
                  · exact ⟨by show _ = some (Value.int (f2 p1)); rw [f2, if_neg hc2, if_neg hc5, if_neg hc8, if_neg hc11, if_neg hc14, if_neg hc17, if_neg hc20, if_pos hc23], N0, e0⟩
                · have pre25 : ∀ t, SS p e below m s₁ 51 #[iv p1] [(.int (56 : Int32)), (.int p1)] t → B t := fun t kk => pre22 t (by
                    refine XS.icmpNo X0.here hx rfl (hb hby d2_45) rfl (feq hc23).1 ?_
                    show SS p e below m s₁ 48 #[iv p1] [] _
                    refine XS.iloadN X0.here hx rfl (hb hby d2_48) rfl ?_
                    show SS p e below m s₁ 49 #[iv p1] [(.int p1)] _
                    refine XS.bipush X0.here hx rfl (hb hby d2_49) ?_
                    show SS p e below m s₁ 51 #[iv p1] [(.int (56 : Int32)), (.int p1)] _
                    exact kk)
                  by_cases hc26 : p1 = (56 : Int32)
                  · have pre27 : ∀ t, SS p e below m s₁ 65 #[iv p1] [(.int (1 : Int32))] t → B t := fun t kk => pre25 t (by
                      refine XS.icmpYes X0.here hx rfl (pc0 := 51) (pc' := 60) rfl (hb hby d2_51) rfl (teq hc26).1 (by decide) (by decide) ?_
                      show SS p e below m s₁ 60 #[iv p1] [] _
                      refine XS.iconst X0.here hx rfl (hb hby d2_60) ?_
                      show SS p e below m s₁ 61 #[iv p1] [(.int (1 : Int32))] _
                      refine XS.goto X0.here hx rfl (pc0 := 61) (pc' := 65) rfl (hb hby d2_61) (by decide) (by decide) ?_
                      show SS p e below m s₁ 65 #[iv p1] [(.int (1 : Int32))] _
                      exact kk)
                    obtain ⟨fs, hr, hrun, hended, hW, hsame⟩ := X0.leave (v := some (.int (1 : Int32))) (fun h => by rw [Bd.returns] at h; cases h)
                    refine ⟨_, _, hB _ (pre27 _ ?_), hrun, hended, _, _, rfl, ?_, ⟨_, rfl⟩, hW, hsame.mono (by decide) (by decide)⟩
                    · exact retN X0 hx (t := .boolean) Bd.returns (by simp) (hb hby d2_65) hr
                    · exact ⟨by show _ = some (Value.int (f2 p1)); rw [f2, if_neg hc2, if_neg hc5, if_neg hc8, if_neg hc11, if_neg hc14, if_neg hc17, if_neg hc20, if_neg hc23, if_pos hc26], N0, e0⟩
                  · have pre28 : ∀ t, SS p e below m s₁ 57 #[iv p1] [(.int (57 : Int32)), (.int p1)] t → B t := fun t kk => pre25 t (by
                      refine XS.icmpNo X0.here hx rfl (hb hby d2_51) rfl (feq hc26).1 ?_
                      show SS p e below m s₁ 54 #[iv p1] [] _
                      refine XS.iloadN X0.here hx rfl (hb hby d2_54) rfl ?_
                      show SS p e below m s₁ 55 #[iv p1] [(.int p1)] _
                      refine XS.bipush X0.here hx rfl (hb hby d2_55) ?_
                      show SS p e below m s₁ 57 #[iv p1] [(.int (57 : Int32)), (.int p1)] _
                      exact kk)
                    by_cases hc29 : p1 = (57 : Int32)
                    · have pre30 : ∀ t, SS p e below m s₁ 65 #[iv p1] [(.int (1 : Int32))] t → B t := fun t kk => pre28 t (by
                        refine XS.icmpNo X0.here hx rfl (hb hby d2_57) rfl (teq hc29).2 ?_
                        show SS p e below m s₁ 60 #[iv p1] [] _
                        refine XS.iconst X0.here hx rfl (hb hby d2_60) ?_
                        show SS p e below m s₁ 61 #[iv p1] [(.int (1 : Int32))] _
                        refine XS.goto X0.here hx rfl (pc0 := 61) (pc' := 65) rfl (hb hby d2_61) (by decide) (by decide) ?_
                        show SS p e below m s₁ 65 #[iv p1] [(.int (1 : Int32))] _
                        exact kk)
                      obtain ⟨fs, hr, hrun, hended, hW, hsame⟩ := X0.leave (v := some (.int (1 : Int32))) (fun h => by rw [Bd.returns] at h; cases h)
                      refine ⟨_, _, hB _ (pre30 _ ?_), hrun, hended, _, _, rfl, ?_, ⟨_, rfl⟩, hW, hsame.mono (by decide) (by decide)⟩
                      · exact retN X0 hx (t := .boolean) Bd.returns (by simp) (hb hby d2_65) hr
                      · exact ⟨by show _ = some (Value.int (f2 p1)); rw [f2, if_neg hc2, if_neg hc5, if_neg hc8, if_neg hc11, if_neg hc14, if_neg hc17, if_neg hc20, if_neg hc23, if_neg hc26, if_pos hc29], N0, e0⟩
                    · have pre31 : ∀ t, SS p e below m s₁ 65 #[iv p1] [(.int (0 : Int32))] t → B t := fun t kk => pre28 t (by
                        refine XS.icmpYes X0.here hx rfl (pc0 := 57) (pc' := 64) rfl (hb hby d2_57) rfl (feq hc29).2 (by decide) (by decide) ?_
                        show SS p e below m s₁ 64 #[iv p1] [] _
                        refine XS.iconst X0.here hx rfl (hb hby d2_64) ?_
                        show SS p e below m s₁ 65 #[iv p1] [(.int (0 : Int32))] _
                        exact kk)
                      obtain ⟨fs, hr, hrun, hended, hW, hsame⟩ := X0.leave (v := some (.int (0 : Int32))) (fun h => by rw [Bd.returns] at h; cases h)
                      refine ⟨_, _, hB _ (pre31 _ ?_), hrun, hended, _, _, rfl, ?_, ⟨_, rfl⟩, hW, hsame.mono (by decide) (by decide)⟩
                      · exact retN X0 hx (t := .boolean) Bd.returns (by simp) (hb hby d2_65) hr
                      · exact ⟨by show _ = some (Value.int (f2 p1)); rw [f2, if_neg hc2, if_neg hc5, if_neg hc8, if_neg hc11, if_neg hc14, if_neg hc17, if_neg hc20, if_neg hc23, if_neg hc26, if_neg hc29], N0, e0⟩
set_option maxHeartbeats 40000000 in
theorem own_eq (x : Int32) : f1 x = f2 x := by
  have L0 : (0 : Int32).toInt = 0 := by decide
  have L1 : (1 : Int32).toInt = 1 := by decide
  have L48 : (48 : Int32).toInt = 48 := by decide
  have L49 : (49 : Int32).toInt = 49 := by decide
  have L50 : (50 : Int32).toInt = 50 := by decide
  have L51 : (51 : Int32).toInt = 51 := by decide
  have L52 : (52 : Int32).toInt = 52 := by decide
  have L53 : (53 : Int32).toInt = 53 := by decide
  have L54 : (54 : Int32).toInt = 54 := by decide
  have L55 : (55 : Int32).toInt = 55 := by decide
  have L56 : (56 : Int32).toInt = 56 := by decide
  have L57 : (57 : Int32).toInt = 57 := by decide
  unfold f1 f2
  simp only [Int32.lt_iff_toInt_lt, ← Int32.toInt_inj]
  repeat' split
  all_goals omega
theorem pn_0 : plainName "org/novate/SyntaxIsDigitPinLaw" = true := by first | (simp [plainName, overriddenIn]; done) | decide +kernel
theorem pd_0 : parseMethodDescriptor "(I)Z" = some ⟨[.int], some .boolean⟩ := by decide +kernel
theorem ef_0 (m : MethodId) (p1 : Int32) (p2 : Int32) : entryFrame m #[(.int p1), (.int p2)] maxLocals = mkF m 0 #[iv p1, iv p2, .unset, .unset, .unset] [] := by first | (simp [entryFrame, mkF, argsToLocals, Value.category, maxLocals]; done) | rfl
set_option maxRecDepth 65536 in
set_option maxHeartbeats 40000000 in
theorem rm0 (l : Launch) (Z : State) (a0 : Array Value) (hw : ∀ d ∈ tables_1, d.before a0 Z = true) (ws : List Jvm.Cond) (p1 : Int32) (p2 : Int32)  (h0 : Heap) (n0 : Nat) (Z0 : n0 ≤ h0.size)  :
    MetFree l x (head1 (Jvm.Cond.code x code maxLocals ret :: ws) room_1) (fun a U => a = #[(.int p1), (.int p2)] ∧ Z.Warmed39 U.vm ∧ U.heap = h0) (fun _ _ _ _ _ => True) (fun _ U o U' => ∃ v L, o = .returned v ∧ QE n0 v U'.heap L ∧ FrameEnd U o U' L room_1.cells room_1.slots) := by
  refine MetFree.of_bodySF (plainFor_of_name pn_0) hisR ?_
  intro p e s m args below meth c s₁ Bd hml0 hP hK
  obtain ⟨rfl, hZ, hh⟩ := hP
  have hx := Bd.exec
  have hby := Bd.bytes
  have hml : c.maxLocals = 5 := hml0
  have hown : s.vm.findClass "org/novate/SyntaxIsDigitPinLaw" = some m.cls := findClass_of_methodNamed Bd.named
  have hnm := (name_of_methodNamed Bd.named Bd.method).1
  have X0 : Stand p l e room_1 s m #[(.int p1), (.int p2)] below meth c s₁ [] 0 0 := Stand.of_body Bd
  have e0 : s₁.heap = h0 := by rw [← hh, Bd.state]; rfl
  have N0 := Fr.nil n0
  obtain ⟨B, hB, pre0⟩ : ∃ B : State → Prop, (∀ t, B t → Steps p.tables e below (s₁.setTop (entryFrame m #[(.int p1), (.int p2)] maxLocals)) t) ∧ ∀ t, SS p e below m s₁ 0 #[iv p1, iv p2, .unset, .unset, .unset] [] t → B t := ⟨_, fun _ q => q, fun t kk => castTop (ef_0 m p1 p2) kk⟩
  have pre2 : ∀ t, SS p e below m s₁ 7 #[iv p1, iv p2, .unset, .unset, .unset] [(.int ((40 : Int32) + (p2 &&& (31 : Int32))))] t → B t := fun t kk => pre0 t (by
    show SS p e below m s₁ 0 #[iv p1, iv p2, .unset, .unset, .unset] [] _
    refine XS.bipush X0.here hx rfl (hb hby at_0) ?_
    show SS p e below m s₁ 2 #[iv p1, iv p2, .unset, .unset, .unset] [(.int (40 : Int32))] _
    refine XS.iloadN X0.here hx rfl (hb hby at_2) rfl ?_
    show SS p e below m s₁ 3 #[iv p1, iv p2, .unset, .unset, .unset] [(.int p2), (.int (40 : Int32))] _
    refine XS.bipush X0.here hx rfl (hb hby at_3) ?_
    show SS p e below m s₁ 5 #[iv p1, iv p2, .unset, .unset, .unset] [(.int (31 : Int32)), (.int p2), (.int (40 : Int32))] _
    refine XS.iand X0.here hx rfl (hb hby at_5) rfl ?_
    show SS p e below m s₁ 6 #[iv p1, iv p2, .unset, .unset, .unset] [(.int (p2 &&& (31 : Int32))), (.int (40 : Int32))] _
    refine XS.iadd X0.here hx rfl (hb hby at_6) rfl ?_
    show SS p e below m s₁ 7 #[iv p1, iv p2, .unset, .unset, .unset] [(.int ((40 : Int32) + (p2 &&& (31 : Int32))))] _
    exact kk)
  obtain ⟨v1, g_v1⟩ : ∃ z, z = ((40 : Int32) + (p2 &&& (31 : Int32))) := ⟨_, rfl⟩
  rw [← g_v1] at pre2
  have pre3 : ∀ t, SS p e below m s₁ 9 #[iv p1, iv p2, iv v1, .unset, .unset] [(.int p1)] t → B t := fun t kk => pre2 t (by
    refine XS.istoreN X0.here hx rfl (hb hby at_7) rfl (l' := #[iv p1, iv p2, iv v1, .unset, .unset]) rfl ?_
    show SS p e below m s₁ 8 #[iv p1, iv p2, iv v1, .unset, .unset] [] _
    refine XS.iloadN X0.here hx rfl (hb hby at_8) rfl ?_
    show SS p e below m s₁ 9 #[iv p1, iv p2, iv v1, .unset, .unset] [(.int p1)] _
    exact kk)
  obtain ⟨_, _, ⟨T4, L4, k4, n4⟩, -, X4, ⟨Lc4, hQ4, l4, y4, z4⟩, st4⟩ := Jvm.LawKit.callS X0 hx (y := (⟨"org/novate/Syntax", "isDigit", "(I)Z"⟩ : MethodName)) hown (mvT hZ (hw _ (List.mem_of_getElem? (i := 0) rfl))) (mvT hZ (hw _ (List.mem_of_getElem? (i := 1) rfl))) (mvT hZ (hw _ (List.mem_of_getElem? (i := 2) rfl))) (mvT hZ (hw _ (List.mem_of_getElem? (i := 3) rfl))) (by decide) (backOf (W := 0) (rm1 l Z a0 hw [] p1 h0 n0 Z0 ) hZ (hw _ (List.mem_of_getElem? (i := 3) rfl)) (hw _ (List.mem_of_getElem? (i := 2) rfl)) (by decide) (by decide)) (g := (mkF m 9 #[iv p1, iv p2, iv v1, .unset, .unset] [(.int p1)])) rfl (by rw [hml]; rfl) (argsL := [(.int p1)]) (rest := []) (lenOf pd_0 rfl) rfl (by show 2 * 0 + _ ≤ _; exact Nat.le_of_eq rfl) (hb hby at_9) (fun _ _ => ⟨rfl, e0, (by decide : 0 + 0 ≤ _), (by decide : 0 + 0 ≤ _)⟩)
  dsimp only [Pt.U, Pt.locs, Pt.cells, Pt.slots] at X4 l4 y4 z4 st4 hQ4
  subst l4 y4 z4
  obtain ⟨rfl, N4q, e4⟩ := hQ4
  have N4 := Fr.app N0 N4q
  have pre5 : ∀ t, SS p e below m T4 13 #[iv p1, iv p2, iv v1, .unset, .unset] [(.int p1), (.int (f1 p1))] t → B t := fun t kk => pre3 t (by
    refine st4 _ ?_
    show SS p e below m T4 12 #[iv p1, iv p2, iv v1, .unset, .unset] [(.int (f1 p1))] _
    refine XS.iloadN X4.here hx rfl (hb hby at_12) rfl ?_
    show SS p e below m T4 13 #[iv p1, iv p2, iv v1, .unset, .unset] [(.int p1), (.int (f1 p1))] _
    exact kk)
  obtain ⟨_, _, ⟨T6, L6, k6, n6⟩, -, X6, ⟨Lc6, hQ6, l6, y6, z6⟩, st6⟩ := Jvm.LawKit.callS X4 hx (y := (⟨"org/novate/SyntaxIsDigitPinLaw", "ref", "(I)Z"⟩ : MethodName)) hown (mvT hZ (hw _ (List.mem_of_getElem? (i := 4) rfl))) (mvT hZ (hw _ (List.mem_of_getElem? (i := 5) rfl))) (mvT hZ (hw _ (List.mem_of_getElem? (i := 6) rfl))) (mvT hZ (hw _ (List.mem_of_getElem? (i := 7) rfl))) (by decide) (backOf (W := 1) (rm2 l Z a0 hw [] p1 h0 n0 Z0 ) hZ (hw _ (List.mem_of_getElem? (i := 7) rfl)) (hw _ (List.mem_of_getElem? (i := 6) rfl)) (by decide) (by decide)) (g := (mkF m 13 #[iv p1, iv p2, iv v1, .unset, .unset] [(.int p1), (.int (f1 p1))])) rfl (by rw [hml]; rfl) (argsL := [(.int p1)]) (rest := [(.int (f1 p1))]) (lenOf pd_0 rfl) rfl (by show 2 * 0 + _ ≤ _; exact Nat.le_of_eq rfl) (hb hby at_13) (fun _ _ => ⟨rfl, e4, (by decide : 0 + 0 ≤ _), (by decide : 0 + 0 ≤ _)⟩)
  dsimp only [Pt.U, Pt.locs, Pt.cells, Pt.slots] at X6 l6 y6 z6 st6 hQ6
  subst l6 y6 z6
  obtain ⟨rfl, N6q, e6⟩ := hQ6
  have N6 := Fr.app N4 N6q
  have pre7 : ∀ t, SS p e below m T6 26 #[iv p1, iv p2, iv v1, iv (1 : Int32), .unset] [(.int v1)] t → B t := fun t kk => pre5 t (by
    refine st6 _ ?_
    show SS p e below m T6 16 #[iv p1, iv p2, iv v1, .unset, .unset] [(.int (f2 p1)), (.int (f1 p1))] _
    refine XS.icmpNo X6.here hx rfl (hb hby at_16) rfl (teq (own_eq p1)).2 ?_
    show SS p e below m T6 19 #[iv p1, iv p2, iv v1, .unset, .unset] [] _
    refine XS.iconst X6.here hx rfl (hb hby at_19) ?_
    show SS p e below m T6 20 #[iv p1, iv p2, iv v1, .unset, .unset] [(.int (1 : Int32))] _
    refine XS.goto X6.here hx rfl (pc0 := 20) (pc' := 24) rfl (hb hby at_20) (by decide) (by decide) ?_
    show SS p e below m T6 24 #[iv p1, iv p2, iv v1, .unset, .unset] [(.int (1 : Int32))] _
    refine XS.istoreN X6.here hx rfl (hb hby at_24) rfl (l' := #[iv p1, iv p2, iv v1, iv (1 : Int32), .unset]) rfl ?_
    show SS p e below m T6 25 #[iv p1, iv p2, iv v1, iv (1 : Int32), .unset] [] _
    refine XS.iloadN X6.here hx rfl (hb hby at_25) rfl ?_
    show SS p e below m T6 26 #[iv p1, iv p2, iv v1, iv (1 : Int32), .unset] [(.int v1)] _
    exact kk)
  obtain ⟨_, _, ⟨T8, L8, k8, n8⟩, -, X8, ⟨Lc8, hQ8, l8, y8, z8⟩, st8⟩ := Jvm.LawKit.callS X6 hx (y := (⟨"org/novate/Syntax", "isDigit", "(I)Z"⟩ : MethodName)) hown (mvT hZ (hw _ (List.mem_of_getElem? (i := 0) rfl))) (mvT hZ (hw _ (List.mem_of_getElem? (i := 1) rfl))) (mvT hZ (hw _ (List.mem_of_getElem? (i := 2) rfl))) (mvT hZ (hw _ (List.mem_of_getElem? (i := 3) rfl))) (by decide) (backOf (W := 0) (rm1 l Z a0 hw [] v1 h0 n0 Z0 ) hZ (hw _ (List.mem_of_getElem? (i := 3) rfl)) (hw _ (List.mem_of_getElem? (i := 2) rfl)) (by decide) (by decide)) (g := (mkF m 26 #[iv p1, iv p2, iv v1, iv (1 : Int32), .unset] [(.int v1)])) rfl (by rw [hml]; rfl) (argsL := [(.int v1)]) (rest := []) (lenOf pd_0 rfl) rfl (by show 2 * 0 + _ ≤ _; exact Nat.le_of_eq rfl) (hb hby at_26) (fun _ _ => ⟨rfl, e6, (by decide : 0 + 0 ≤ _), (by decide : 0 + 0 ≤ _)⟩)
  dsimp only [Pt.U, Pt.locs, Pt.cells, Pt.slots] at X8 l8 y8 z8 st8 hQ8
  subst l8 y8 z8
  obtain ⟨rfl, N8q, e8⟩ := hQ8
  have N8 := Fr.app N6 N8q
  have pre9 : ∀ t, SS p e below m T8 30 #[iv p1, iv p2, iv v1, iv (1 : Int32), .unset] [(.int v1), (.int (f1 v1))] t → B t := fun t kk => pre7 t (by
    refine st8 _ ?_
    show SS p e below m T8 29 #[iv p1, iv p2, iv v1, iv (1 : Int32), .unset] [(.int (f1 v1))] _
    refine XS.iloadN X8.here hx rfl (hb hby at_29) rfl ?_
    show SS p e below m T8 30 #[iv p1, iv p2, iv v1, iv (1 : Int32), .unset] [(.int v1), (.int (f1 v1))] _
    exact kk)
  obtain ⟨_, _, ⟨T10, L10, k10, n10⟩, -, X10, ⟨Lc10, hQ10, l10, y10, z10⟩, st10⟩ := Jvm.LawKit.callS X8 hx (y := (⟨"org/novate/SyntaxIsDigitPinLaw", "ref", "(I)Z"⟩ : MethodName)) hown (mvT hZ (hw _ (List.mem_of_getElem? (i := 4) rfl))) (mvT hZ (hw _ (List.mem_of_getElem? (i := 5) rfl))) (mvT hZ (hw _ (List.mem_of_getElem? (i := 6) rfl))) (mvT hZ (hw _ (List.mem_of_getElem? (i := 7) rfl))) (by decide) (backOf (W := 1) (rm2 l Z a0 hw [] v1 h0 n0 Z0 ) hZ (hw _ (List.mem_of_getElem? (i := 7) rfl)) (hw _ (List.mem_of_getElem? (i := 6) rfl)) (by decide) (by decide)) (g := (mkF m 30 #[iv p1, iv p2, iv v1, iv (1 : Int32), .unset] [(.int v1), (.int (f1 v1))])) rfl (by rw [hml]; rfl) (argsL := [(.int v1)]) (rest := [(.int (f1 v1))]) (lenOf pd_0 rfl) rfl (by show 2 * 0 + _ ≤ _; exact Nat.le_of_eq rfl) (hb hby at_30) (fun _ _ => ⟨rfl, e8, (by decide : 0 + 0 ≤ _), (by decide : 0 + 0 ≤ _)⟩)
  dsimp only [Pt.U, Pt.locs, Pt.cells, Pt.slots] at X10 l10 y10 z10 st10 hQ10
  subst l10 y10 z10
  obtain ⟨rfl, N10q, e10⟩ := hQ10
  have N10 := Fr.app N8 N10q
  have pre11 : ∀ t, SS p e below m T10 57 #[iv p1, iv p2, iv v1, iv (1 : Int32), iv (1 : Int32)] [(.int (1 : Int32))] t → B t := fun t kk => pre9 t (by
    refine st10 _ ?_
    show SS p e below m T10 33 #[iv p1, iv p2, iv v1, iv (1 : Int32), .unset] [(.int (f2 v1)), (.int (f1 v1))] _
    refine XS.icmpNo X10.here hx rfl (hb hby at_33) rfl (teq (own_eq v1)).2 ?_
    show SS p e below m T10 36 #[iv p1, iv p2, iv v1, iv (1 : Int32), .unset] [] _
    refine XS.iconst X10.here hx rfl (hb hby at_36) ?_
    show SS p e below m T10 37 #[iv p1, iv p2, iv v1, iv (1 : Int32), .unset] [(.int (1 : Int32))] _
    refine XS.goto X10.here hx rfl (pc0 := 37) (pc' := 41) rfl (hb hby at_37) (by decide) (by decide) ?_
    show SS p e below m T10 41 #[iv p1, iv p2, iv v1, iv (1 : Int32), .unset] [(.int (1 : Int32))] _
    refine XS.istore X10.here hx rfl (hb hby at_41) rfl (l' := #[iv p1, iv p2, iv v1, iv (1 : Int32), iv (1 : Int32)]) rfl ?_
    show SS p e below m T10 43 #[iv p1, iv p2, iv v1, iv (1 : Int32), iv (1 : Int32)] [] _
    refine XS.iloadN X10.here hx rfl (hb hby at_43) rfl ?_
    show SS p e below m T10 44 #[iv p1, iv p2, iv v1, iv (1 : Int32), iv (1 : Int32)] [(.int (1 : Int32))] _
    refine XS.ifNo X10.here hx rfl (hb hby at_44) rfl ((if0 _ _).trans (feq (by decide : ¬ ((1 : Int32) = (0 : Int32)))).1) ?_
    show SS p e below m T10 47 #[iv p1, iv p2, iv v1, iv (1 : Int32), iv (1 : Int32)] [] _
    refine XS.iload X10.here hx rfl (hb hby at_47) rfl ?_
    show SS p e below m T10 49 #[iv p1, iv p2, iv v1, iv (1 : Int32), iv (1 : Int32)] [(.int (1 : Int32))] _
    refine XS.ifNo X10.here hx rfl (hb hby at_49) rfl ((if0 _ _).trans (feq (by decide : ¬ ((1 : Int32) = (0 : Int32)))).1) ?_
    show SS p e below m T10 52 #[iv p1, iv p2, iv v1, iv (1 : Int32), iv (1 : Int32)] [] _
    refine XS.iconst X10.here hx rfl (hb hby at_52) ?_
    show SS p e below m T10 53 #[iv p1, iv p2, iv v1, iv (1 : Int32), iv (1 : Int32)] [(.int (1 : Int32))] _
    refine XS.goto X10.here hx rfl (pc0 := 53) (pc' := 57) rfl (hb hby at_53) (by decide) (by decide) ?_
    show SS p e below m T10 57 #[iv p1, iv p2, iv v1, iv (1 : Int32), iv (1 : Int32)] [(.int (1 : Int32))] _
    exact kk)
  obtain ⟨fs, hr, hrun, hended, hW, hsame⟩ := X10.leave (v := some (.int (1 : Int32))) (fun h => by rw [Bd.returns] at h; cases h)
  refine ⟨_, _, hB _ (pre11 _ ?_), hrun, hended, _, _, rfl, ?_, ⟨_, rfl⟩, hW, hsame.mono (by decide) (by decide)⟩
  · exact retN X10 hx (t := .boolean) Bd.returns (by simp) (hb hby at_57) hr
  · exact ⟨rfl, N10⟩
set_option maxRecDepth 65536 in
set_option maxHeartbeats 40000000 in
theorem comes_1 {Post : Tables → Env → Array Value → State → Outcome → State → Prop} (hpost : ∀ tb e args s v u, (limb_1_1.after args s (.returned v) u = true ∧ limb_1_2.after args s (.returned v) u = true ∧ True) → FrameEnd s (.returned v) u (Jvm.fieldLocs frame_1_writes args s ++ Jvm.arrayLocs frame_1_arrays args s ++ Jvm.staticLocs frame_1_statics s) 0 0 → Post tb e args s (.returned v) u) :
    ArmFor flags0 classFile x code maxLocals ret World_1 tables_1 room_1 Calls_1 rest_1 Pre_1 Post := by
  intro l hfl _ _ p e ha hc hk s m args below hf hA hF happ hP
  obtain ⟨hcalls, hrest, hpre⟩ := hP
  obtain ⟨-, -, -, hnamed, -, -, -, hat⟩ := (Spec.applies_iff hf).mp happ
  obtain ⟨hg, hn⟩ := and_e (Cond.before_iff.mp (show (Jvm.Cond.and given_1 narrow_1).before args s = true from hpre))
  obtain ⟨gg1, gg2⟩ := and_e hg
  obtain ⟨gg3, gg4⟩ := and_e gg2
  obtain ⟨w0, w1, rfl⟩ : ∃ w0 w1 : Value, args = #[w0, w1] := by
    have hs : args.size = 2 := by simpa [Cond.value, given_1] using gg1
    obtain ⟨L⟩ := args
    match L, hs with
    | [w0, w1], _ => exact ⟨w0, w1, rfl⟩
  have hw := fun d (hd : d ∈ tables_1) => atoms_spec (ws := Jvm.Cond.code x code maxLocals ret :: tables_1) hat d (List.mem_cons_of_mem _ hd)
  obtain ⟨i0, ei0⟩ := is_v gg3
  obtain rfl : w0 = (.int i0) := Option.some.inj ei0
  obtain ⟨i1, ei1⟩ := is_v gg4
  obtain rfl : w1 = (.int i1) := Option.some.inj ei1
  obtain ⟨n, o, h1, h2, h3, _, L, rfl, ⟨rfl, N⟩, hq⟩ := rm0 l s _ hw tables_1 i0 i1 s.heap s.heap.size (Nat.le_refl _)  p e ha hc hk s m _ below hf ((Spec.applies_iff_loose hf).mp happ).1 ⟨rfl, State.Warmed39.refl s, rfl⟩ trivial
  refine ⟨n, _, h1, h2, h3, hpost _ _ _ _ _ _ ⟨Cond.after_iff.mpr rfl, Cond.after_iff.mpr (eq_i res_at (Term.int_eval (1)) rfl), trivial⟩ ⟨hq.1, hq.2.1, (hq.2.2.sift fun y hy => Or.inr (N y hy)).mono (by decide) (by decide)⟩⟩
theorem main_1_1 : Claimed_1_1 := comes_1 fun _ _ _ _ _ _ h hF => ⟨h.1, hF⟩
theorem main_1_2 : Claimed_1_2 := comes_1 fun _ _ _ _ _ _ h hF => ⟨h.2.1, hF⟩
end Jvm.Pilot.@@N@@
namespace Jvm.Pilot.@@N@@
open Jvm Jvm.ClassFile Sem Op Lib Jvm.Free Jvm.Stand Jvm.Pilot.@@N@@.Jvm.D
/-! MADE BY PROGRAM (witnessworld.py) out of the Statement's table words and the real class files: 9 classes; the members and pool entries that the words name. The judged class is class 1, her method 2. -/
namespace start1
open Jvm.ClassFile
def u (s : String) : CpInfo := .utf8 (stringToUtf16 s)
/-- a pool by its gaps: so many unusable entries, then the entry; so many at the end -/
def gap : Nat → List CpInfo → List CpInfo
  | 0, r => r
  | n + 1, r => .unusable :: gap n r
def poolList (es : List (Nat × CpInfo)) (last : Nat) : List CpInfo := es.foldr (fun e r => gap e.1 (e.2 :: r)) (gap last [])
def pool (es : List (Nat × CpInfo)) (last : Nat) : Array CpInfo := ⟨poolList es last⟩
def fileOf (pool : Array CpInfo) (this : Nat) (attrs : Array Attribute := #[]) (ms : Array MethodInfo := #[]) (fl : Nat := 33) (sup : Nat := 0) (ifs : Array Nat := #[]) (fds : Array FieldInfo := #[]) : ClassFile where
  minorVersion := 0
  majorVersion := 65
  constantPool := pool
  accessFlags := fl
  thisClass := this
  superClass := sup
  interfaces := ifs
  fields := fds
  methods := ms
  attributes := attrs
def plain (name : String) (sup : Option ClassId) : Class where
  name := name
  kind := .ordinary
  loader := none
  accessFlags := 33
  super := sup
  interfaces := #[]
  cf := none
  fields := #[]
  methods := #[]
  instanceTypes := #[]
  staticTypes := #[]
  resolved := #[]
  callSites := []
  init := .initialized
  statics := none
  mirror := none

def pool0 : Array CpInfo := pool [(5, u "<init>"), (0, u "()V"), (1, .class_ 10), (1, u "java/lang/Object")] 113

def k0m0 : Method := { name := "<init>", desc := "()V", sig := { parameters := [], returnType := none }, accessFlags := 1, code := none }
/-- java/lang/Object -/
def k0 : Class := { plain "java/lang/Object" none with
  accessFlags := 33
  interfaces := #[]
  cf := some (fileOf pool0 8 #[] #[{ accessFlags := 1, nameIndex := 5, descriptorIndex := 6, attributes := #[] }] 33 0 #[] #[])
  fields := #[]
  methods := #[k0m0]
  instanceTypes := #[]
  staticTypes := #[]
  resolved := Array.replicate 124 none
  statics := none }

def pool1 : Array CpInfo := pool [(2, .class_ 4), (1, u "java/lang/Object"), (0, u "<init>"), (0, u "()V"), (0, .methodref 8 9), (0, .class_ 10), (0, .nameAndType 11 12), (0, u "org/novate/Syntax"), (0, u "isDigit"), (0, u "(I)Z"), (0, .methodref 14 15), (0, .class_ 16), (0, .nameAndType 17 12), (0, u "org/novate/SyntaxIsDigitPinLaw"), (0, u "ref"), (3, u "law"), (0, u "(II)Z")] 2

def k1m0 : Method := { name := "<init>", desc := "()V", sig := { parameters := [], returnType := none }, accessFlags := 2, code := none }
def k1c1 : Code := { maxStack := 2, maxLocals := 1, code := method_2_code, exceptionTable := #[], attributes := #[] }
def k1m1 : Method := { name := "ref", desc := "(I)Z", sig := { parameters := [.int], returnType := some .boolean }, accessFlags := 10, code := some k1c1 }
def k1c2 : Code := { maxStack := 3, maxLocals := 5, code := code, exceptionTable := #[], attributes := #[] }
def k1m2 : Method := { name := "law", desc := "(II)Z", sig := { parameters := [.int, .int], returnType := some .boolean }, accessFlags := 9, code := some k1c2 }
/-- org/novate/SyntaxIsDigitPinLaw -/
def k1 : Class := { plain "org/novate/SyntaxIsDigitPinLaw" (some 0) with
  accessFlags := 49
  interfaces := #[]
  cf := some (fileOf pool1 14 #[] #[{ accessFlags := 2, nameIndex := 5, descriptorIndex := 6, attributes := #[] }, { accessFlags := 10, nameIndex := 17, descriptorIndex := 12, attributes := #[] }, { accessFlags := 9, nameIndex := 21, descriptorIndex := 22, attributes := #[] }] 49 2 #[] #[])
  fields := #[]
  methods := #[k1m0, k1m1, k1m2]
  instanceTypes := #[]
  staticTypes := #[]
  resolved := Array.replicate 25 none
  statics := none }

def pool2 : Array CpInfo := pool [(1, .class_ 2), (0, u "org/novate/Syntax"), (1, .class_ 6), (1, u "java/lang/Object"), (0, u "<init>"), (0, u "()V"), (61, u "isDigit"), (0, u "(I)Z"), (42, u "DATE"), (0, u "Ljava/time/format/DateTimeFormatter;"), (0, u "MEMBER_ID_LENGTH"), (0, u "I"), (2, u "MEMBER_ID_FORM"), (0, u "Ljava/lang/String;"), (2, u "ADDRESS_LENGTH"), (1, u "BIC_FORM"), (2, u "MAX_LONG_DIGITS")] 45

def k2m0 : Method := { name := "<init>", desc := "()V", sig := { parameters := [], returnType := none }, accessFlags := 2, code := none }
def k2c1 : Code := { maxStack := 2, maxLocals := 1, code := prog_89_method_12_code, exceptionTable := #[], attributes := #[] }
def k2m1 : Method := { name := "isDigit", desc := "(I)Z", sig := { parameters := [.int], returnType := some .boolean }, accessFlags := 8, code := some k2c1 }
/-- org/novate/Syntax -/
def k2 : Class := { plain "org/novate/Syntax" (some 0) with
  accessFlags := 48
  interfaces := #[]
  cf := some (fileOf pool2 1 #[] #[{ accessFlags := 2, nameIndex := 7, descriptorIndex := 8, attributes := #[] }, { accessFlags := 8, nameIndex := 70, descriptorIndex := 71, attributes := #[] }] 48 4 #[] #[{ accessFlags := 24, nameIndex := 116, descriptorIndex := 117, attributes := #[] }, { accessFlags := 24, nameIndex := 120, descriptorIndex := 121, attributes := #[] }, { accessFlags := 24, nameIndex := 124, descriptorIndex := 117, attributes := #[] }, { accessFlags := 24, nameIndex := 126, descriptorIndex := 121, attributes := #[] }, { accessFlags := 24, nameIndex := 114, descriptorIndex := 115, attributes := #[] }, { accessFlags := 26, nameIndex := 129, descriptorIndex := 117, attributes := #[] }])
  fields := #[{ name := "MEMBER_ID_LENGTH", type := .int, accessFlags := 24, slot := 0, constantValue := 0 }, { name := "MEMBER_ID_FORM", type := (.object "java/lang/String"), accessFlags := 24, slot := 1, constantValue := 0 }, { name := "ADDRESS_LENGTH", type := .int, accessFlags := 24, slot := 2, constantValue := 0 }, { name := "BIC_FORM", type := (.object "java/lang/String"), accessFlags := 24, slot := 3, constantValue := 0 }, { name := "DATE", type := (.object "java/time/format/DateTimeFormatter"), accessFlags := 24, slot := 4, constantValue := 0 }, { name := "MAX_LONG_DIGITS", type := .int, accessFlags := 26, slot := 5, constantValue := 0 }]
  methods := #[k2m0, k2m1]
  instanceTypes := #[]
  staticTypes := #[.int, (.object "java/lang/String"), .int, (.object "java/lang/String"), (.object "java/time/format/DateTimeFormatter"), .int]
  resolved := Array.replicate 175 none
  statics := none }

def pool3 : Array CpInfo := pool [(1, u "java/lang/Cloneable"), (0, .class_ 1), (0, u "java/lang/Object"), (0, .class_ 3)] 3

/-- java/lang/Cloneable -/
def k3 : Class := { plain "java/lang/Cloneable" (some 0) with
  accessFlags := 1537
  interfaces := #[]
  cf := some (fileOf pool3 2 #[] #[] 1537 4 #[] #[])
  fields := #[]
  methods := #[]
  instanceTypes := #[]
  staticTypes := #[]
  resolved := Array.replicate 8 none
  statics := none }

def pool4 : Array CpInfo := pool [(1, u "java/io/Serializable"), (0, .class_ 1), (0, u "java/lang/Object"), (0, .class_ 3)] 3

/-- java/io/Serializable -/
def k4 : Class := { plain "java/io/Serializable" (some 0) with
  accessFlags := 1537
  interfaces := #[]
  cf := some (fileOf pool4 2 #[] #[] 1537 4 #[] #[])
  fields := #[]
  methods := #[]
  instanceTypes := #[]
  staticTypes := #[]
  resolved := Array.replicate 8 none
  statics := none }

/-- the primitive byte -/
def k5 : Class := { plain "byte" none with kind := .primitive 'B', accessFlags := 0x411 }
/-- [B -/
def k6 : Class := { plain "[B" (some 0) with kind := .array 5 .byte, interfaces := #[3, 4], accessFlags := 1041 }

/-- the primitive int -/
def k7 : Class := { plain "int" none with kind := .primitive 'I', accessFlags := 0x411 }
/-- [I -/
def k8 : Class := { plain "[I" (some 0) with kind := .array 7 .int, interfaces := #[3, 4], accessFlags := 1041 }

def heap : Heap := #[]
def classes : Array Class := #[k0, k1, k2, k3, k4, k5, k6, k7, k8]
def interned : List (Array UInt16 × Addr) := []
def slotsUsed : Nat := 0
def theMethod : MethodId := ⟨1, 2⟩
def args0 : Array Value := #[.int 5, .int 5]
def aboutOver (below : List Frame) : State where
  vm := { classes := classes, interned := interned.toArray }
  heap := heap
  slotsUsed := slotsUsed
  threads := #[{ frames := .invoking theMethod args0 :: below }]
def below0 : List Frame := [.native { method := ⟨0, 0⟩, args := #[] }]
def about1 : State := aboutOver below0
def p0 : Program := .bare "" "" ""
def e0 : Env := launch0.env 0 0 0
theorem w_frames : about1.frames = Frame.invoking theMethod args0 :: below0 := rfl
set_option maxRecDepth 65536 in
theorem w_args : argsFit about1.vm theMethod args0 = true := by decide +kernel
set_option maxRecDepth 65536 in
theorem w_heap : heapFits about1 = true := by decide +kernel
set_option maxRecDepth 65536 in
theorem w_runnable : about1.curStatus? = some .runnable := by decide +kernel
set_option maxRecDepth 65536 in
theorem w_alone : about1.alone = true := by decide +kernel
set_option maxRecDepth 65536 in
theorem w_named : about1.methodNamed? x = some theMethod := by decide +kernel
set_option maxRecDepth 65536 in
theorem w_hears : about1.hears theMethod below0 = true := by decide +kernel
set_option maxRecDepth 65536 in
theorem w_ripe : about1.ripe theMethod args0 below0 = true := by decide +kernel
theorem w_running : about1.status = .running := rfl
set_option maxRecDepth 65536 in
theorem w_room : about1.hasRoom e0.platform room_1 = true :=
  launch0.hasRoom_least _ room_1 (by decide +kernel) (by decide +kernel) (by decide +kernel) (by decide +kernel) (by decide +kernel) (by decide +kernel)
theorem allAtoms_all (ts : List Jvm.Cond) (a : Array Jvm.Value) (st : Jvm.State) : (allAtoms ts).before a st = ts.all (fun c => c.before a st) := by
  induction ts with
  | nil => rfl
  | cons c t ih =>
    show (Jvm.Cond.and c (allAtoms t)).before a st = _
    rw [Jvm.Cond.before_and, ih, List.all_cons]
def words1 : List Jvm.Cond := Jvm.Cond.code x code maxLocals ret :: tables_1
/-- a 'code' word, met by the world's own term for the bytes: nothing is compared byte by byte -/
theorem code_word {y : MethodName} {bytes : ByteArray} {mx : Nat} {rt : Option FieldType} {a : Array Value} {s : State} {m : MethodId} {meth : Method} {c : Code} (h1 : s.methodNamed? y = some m) (h2 : s.vm.method? m = some meth) (h3 : meth.code = some c) (h4 : c.code = bytes)
    (h5 : (c.maxLocals == mx && c.exceptionTable.isEmpty && decide (c.maxStack ≤ mostOperands) && decide (meth.sig.returnType = rt) && !meth.locks && decide (parseMethodDescriptor y.desc = some meth.sig)) = true) : (Jvm.Cond.code y bytes mx rt).before a s = true := by
  simp only [Bool.and_eq_true, beq_iff_eq, Bool.not_eq_true', decide_eq_true_eq] at h5
  obtain ⟨⟨⟨⟨⟨g1, g2⟩, g3⟩, g4⟩, g5⟩, g6⟩ := h5
  simp [Cond.before, Cond.holds, Cond.value, h1, h2, h3, h4, g1, g2, g3, g4, g5, g6]
def isCode : Jvm.Cond → Bool
  | .code _ _ _ _ => true
  | _ => false
theorem all_split {L : List Jvm.Cond} {P : Jvm.Cond → Bool} (h1 : L.all (fun c => isCode c || P c) = true) (h2 : ∀ c ∈ L.filter isCode, P c = true) : L.all P = true := by
  refine List.all_eq_true.mpr fun c hc => ?_
  have h := List.all_eq_true.mp h1 c hc
  rcases Bool.eq_false_or_eq_true (isCode c) with hi | hi
  · exact h2 c (List.mem_filter.mpr ⟨hc, hi⟩)
  · simpa [hi] using h
set_option maxRecDepth 65536 in
theorem w_c0 : (Jvm.Cond.code x code maxLocals ret).before args0 about1 = true := code_word (m := ⟨1, 2⟩) (meth := k1m2) (c := k1c2) (by decide +kernel) rfl rfl rfl (by decide +kernel)
set_option maxRecDepth 65536 in
theorem w_c1 : (Jvm.Cond.code ({ cls := "org/novate/Syntax", name := "isDigit", desc := "(I)Z" } : Jvm.MethodName) prog_89_method_12_code (1 : Nat) (Option.some Jvm.ClassFile.FieldType.boolean)).before args0 about1 = true := code_word (m := ⟨2, 1⟩) (meth := k2m1) (c := k2c1) (by decide +kernel) rfl rfl rfl (by decide +kernel)
set_option maxRecDepth 65536 in
theorem w_c2 : (Jvm.Cond.code ({ cls := "org/novate/SyntaxIsDigitPinLaw", name := "ref", desc := "(I)Z" } : Jvm.MethodName) method_2_code (1 : Nat) (Option.some Jvm.ClassFile.FieldType.boolean)).before args0 about1 = true := code_word (m := ⟨1, 1⟩) (meth := k1m1) (c := k1c1) (by decide +kernel) rfl rfl rfl (by decide +kernel)
def codes1 : List Jvm.Cond := [Jvm.Cond.code x code maxLocals ret, Jvm.Cond.code ({ cls := "org/novate/Syntax", name := "isDigit", desc := "(I)Z" } : Jvm.MethodName) prog_89_method_12_code (1 : Nat) (Option.some Jvm.ClassFile.FieldType.boolean), Jvm.Cond.code ({ cls := "org/novate/SyntaxIsDigitPinLaw", name := "ref", desc := "(I)Z" } : Jvm.MethodName) method_2_code (1 : Nat) (Option.some Jvm.ClassFile.FieldType.boolean)]
set_option maxRecDepth 65536 in
theorem codes_eq : words1.filter isCode = codes1 := rfl
theorem w_codes : ∀ c ∈ words1.filter isCode, c.before args0 about1 = true := by
  rw [codes_eq]
  intro c hc
  simp only [codes1, List.mem_cons, List.not_mem_nil, or_false] at hc
  rcases hc with rfl | rfl | rfl
  · exact w_c0
  · exact w_c1
  · exact w_c2
set_option maxRecDepth 65536 in
theorem w_t1 : words1.all (fun c => isCode c || c.before args0 about1) = true := by decide +kernel
theorem w_tables : (allAtoms (Jvm.Cond.code x code maxLocals ret :: tables_1)).before args0 about1 = true := by
  rw [allAtoms_all]
  show words1.all (fun c => c.before args0 about1) = true
  refine all_split ?_ w_codes
  rw [w_t1]
set_option maxRecDepth 65536 in
theorem w_case : (Jvm.Cond.and given_1 narrow_1).before args0 about1 = true := by decide +kernel
theorem w_applies : (headSpec (Jvm.Cond.code x code maxLocals ret :: tables_1) room_1).applies x e0.platform about1 = true :=
  (Spec.applies_iff w_frames).mpr ⟨w_running, w_runnable, w_alone, w_named, w_hears, w_ripe, w_room, w_tables⟩
theorem atStart : AtStart classFile x code maxLocals ret World_1 tables_1 room_1 Calls_1 rest_1 Pre_1 launch0 p0 e0 about1 theMethod args0 below0 :=
  ⟨lists_1, trivial, launch0.admits_env _ _ _, launch0.least_env, fairChoices_fair.cas, fairChoices_fair.clock, w_frames, w_args, w_heap, w_applies, trivial, trivial, w_case⟩
end start1
theorem witness_1 : WitnessClaimed_1 := ⟨start1.p0, start1.e0, start1.about1, start1.theMethod, start1.args0, start1.below0, start1.atStart⟩
end Jvm.Pilot.@@N@@
