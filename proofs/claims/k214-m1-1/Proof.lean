import JvmDerived
import JvmDerived.Pilot.@@N@@Statement
import JvmDerived.Pilot.@@N@@Code
set_option linter.unusedVariables false
set_option linter.unusedSimpArgs false
namespace Jvm.RoadKit
open Sem ClassFile Op Lib Jvm.Stand Jvm.Free Jvm.LawKit
section New
variable {p : Program} {l : Launch} {e : Env} {R : Room} {s : State} {m : MethodId} {args : Array Value} {below : List Frame} {meth : Method} {c : Code} {T : State} {locs : List Loc} {cells slots : Nat}
theorem retI (X : Stand p l e R s m args below meth c T locs cells slots) (hx : p.tables.exec = Jvm.exec) {pc : Nat} {Ls : Array Slot} {z : Int32} {rest : List Value} (hret : meth.sig.returnType = some .int) (hd : decode c.code pc = .ok (.ireturn, 1)) {fs : List Frame}
    (hl : ∀ (f : JFrame) (acts : List Action), f.method = m → f.locked = none → f.entered = [] → (doReturn e (T.setTop f) acts (some (.int z))).1 = T.setFrames fs) : Steps p.tables e below (T.setTop (mkF m pc Ls (.int z :: rest))) (T.setFrames fs) := by
  have hm' : T.vm.method? m = some meth := X.method'
  have hn : narrow .int (.int z) = .int z := rfl
  show Steps p.tables e below (T.setTop { method := m, pc := pc, locals := Ls, stack := _ :: rest, locked := none }) _
  jvm_step X.here [X.here.top, hx, hd, hm', hret, hn]
  first | (intro acts; rw [hl _ acts rfl rfl rfl]) | rw [hl _ _ rfl rfl rfl]
  exact Steps.refl _
theorem retL (X : Stand p l e R s m args below meth c T locs cells slots) (hx : p.tables.exec = Jvm.exec) {pc : Nat} {Ls : Array Slot} {z : Int64} {rest : List Value} (hret : meth.sig.returnType = some .long) (hd : decode c.code pc = .ok (.lreturn, 1)) {fs : List Frame}
    (hl : ∀ (f : JFrame) (acts : List Action), f.method = m → f.locked = none → f.entered = [] → (doReturn e (T.setTop f) acts (some (.long z))).1 = T.setFrames fs) : Steps p.tables e below (T.setTop (mkF m pc Ls (.long z :: rest))) (T.setFrames fs) := by
  have hm' : T.vm.method? m = some meth := X.method'
  have hn : narrow .long (.long z) = .long z := rfl
  show Steps p.tables e below (T.setTop { method := m, pc := pc, locals := Ls, stack := _ :: rest, locked := none }) _
  jvm_step X.here [X.here.top, hx, hd, hm', hret, hn]
  first | (intro acts; rw [hl _ acts rfl rfl rfl]) | rw [hl _ _ rfl rfl rfl]
  exact Steps.refl _
end New
end Jvm.RoadKit
namespace Jvm.Pilot.@@N@@
open Jvm Jvm.ClassFile Sem Op Lib Jvm.Free Jvm.Stand Jvm.LawKit Jvm.RoadKit Bundle Jvm.Pilot.@@N@@.Jvm.D
/-- the run comes from pc, with these locals and this stack, to t -/
abbrev SS (p : Program) (e : Env) (below : List Frame) (m : MethodId) (T : State) (pc : Nat) (ls : Array Slot) (st : List Value) (t : State) : Prop := Steps p.tables e below (T.setTop (mkF m pc ls st)) t
/-- a method that writes nothing and returns an int -/
def QI (r : Int32) (h0 : Heap) (n0 : Nat) (v : Option Value) (h : Heap) (L : List Loc) : Prop := v = some (.int r) ∧ Fr n0 L ∧ h = h0
def QL (r : Int64) (h0 : Heap) (n0 : Nat) (v : Option Value) (h : Heap) (L : List Loc) : Prop := v = some (.long r) ∧ Fr n0 L ∧ h = h0
def QV (h0 : Heap) (n0 : Nat) (v : Option Value) (h : Heap) (L : List Loc) : Prop := v = none ∧ Fr n0 L ∧ h = h0
/-- .. that may load String constants -/
def QC (r : Int32) (W0 : Vm → Heap → Prop) (h0 : Heap) (n0 : Nat) (v : Option Value) (h : Heap) (vm : Vm) (L : List Loc) : Prop := v = some (.int r) ∧ Fr n0 L ∧ Ext h0 h ∧ W0 vm h
def QIS (r : Int32) (h0 : Heap) (n0 : Nat) (v : Option Value) (h : Heap) (L : List Loc) : Prop := v = some (.int r) ∧ Fr n0 L ∧ Ext h0 h
theorem own_ext {a b c : Heap} (h : Ext a b) (k : Ext b c) : Ext a c := ⟨Nat.le_trans h.1 k.1, fun x y q => k.2 _ _ (h.2 _ _ q)⟩
theorem own_extw {a h h' : Heap} {x : Addr} {sl : Nat} {v : Value} (E : Ext a h) (W : Wr h h' x sl v) (q : a.size ≤ x) : Ext a h' := by
  have K := Keep.of_wr W
  refine ⟨Nat.le_trans E.1 K.1, fun y c hc => K.2.1 _ _ (E.2 _ _ hc) fun hm => ?_⟩
  have hl := (Array.getElem?_eq_some_iff.mp hc).1
  rw [List.mem_singleton] at hm
  rw [hm] at hl
  exact absurd hl (Nat.not_lt.mpr q)
def QE (n0 : Nat) (v : Option Value) (h : Heap) (L : List Loc) : Prop := v = some (.int 1) ∧ Fr n0 L
theorem d3_0 : decode method_2_code 0 = .ok (.iload_n 0, 1) := by decide +kernel
theorem d3_1 : decode method_2_code 1 = .ok (.iload_n 1, 1) := by decide +kernel
theorem d3_2 : decode method_2_code 2 = .ok (.if_icmp .lt 12, 3) := by decide +kernel
theorem d3_5 : decode method_2_code 5 = .ok (.iload_n 0, 1) := by decide +kernel
theorem d3_6 : decode method_2_code 6 = .ok (.iload_n 2, 1) := by decide +kernel
theorem d3_7 : decode method_2_code 7 = .ok (.if_icmp .gt 7, 3) := by decide +kernel
theorem d3_10 : decode method_2_code 10 = .ok (.iconst 1, 1) := by decide +kernel
theorem d3_11 : decode method_2_code 11 = .ok (.goto 4, 3) := by decide +kernel
theorem d3_14 : decode method_2_code 14 = .ok (.iconst 0, 1) := by decide +kernel
theorem d3_15 : decode method_2_code 15 = .ok (.ireturn, 1) := by decide +kernel
theorem pn_3 : plainName "com/example/mendmark/mendmark/core/XmlCharsIsNameStartPinLaw" = true := by first | (simp [plainName, overriddenIn]; done) | decide +kernel
theorem ef_3 (m : MethodId) (p1 : Int32) (p2 : Int32) (p3 : Int32) : entryFrame m #[(.int p1), (.int p2), (.int p3)] 3 = mkF m 0 #[iv p1, iv p2, iv p3] [] := by first | (simp [entryFrame, mkF, argsToLocals, Value.category]; done) | rfl
def f3 (p1 : Int32) (p2 : Int32) (p3 : Int32)  : Int32 := (if p1 < p2 then (0 : Int32) else (if p3 < p1 then (0 : Int32) else (1 : Int32)))
set_option maxRecDepth 65536 in
set_option maxHeartbeats 40000000 in
theorem rm3 (l : Launch) (Z : State) (a0 : Array Value) (hw : ∀ d ∈ tables_1, d.before a0 Z = true) (ws : List Jvm.Cond) (p1 : Int32) (p2 : Int32) (p3 : Int32)  (h0 : Heap) (n0 : Nat) (Z0 : n0 ≤ h0.size)  :
    MetFree l (⟨"com/example/mendmark/mendmark/core/XmlCharsIsNameStartPinLaw", "in", "(III)Z"⟩ : MethodName) (head1 (Jvm.Cond.code (⟨"com/example/mendmark/mendmark/core/XmlCharsIsNameStartPinLaw", "in", "(III)Z"⟩ : MethodName) method_2_code 3 (some .boolean) :: ws) ({ frames := 0, cells := 0, slots := 0, locals := 0 } : Room)) (fun a U => a = #[(.int p1), (.int p2), (.int p3)] ∧ Z.Warmed39 U.vm ∧ U.heap = h0) (fun _ _ _ _ _ => True) (fun _ U o U' => ∃ v L, o = .returned v ∧ QI (f3 p1 p2 p3) h0 n0 v U'.heap L ∧ FrameEnd U o U' L ({ frames := 0, cells := 0, slots := 0, locals := 0 } : Room).cells ({ frames := 0, cells := 0, slots := 0, locals := 0 } : Room).slots) := by
  refine MetFree.of_bodySF (plainFor_of_name pn_3) hisR ?_
  intro p e s m args below meth c s₁ Bd hml0 hP hK
  obtain ⟨rfl, hZ, hh⟩ := hP
  have hx := Bd.exec
  have hby := Bd.bytes
  have hml : c.maxLocals = 3 := hml0
  have hown : s.vm.findClass "com/example/mendmark/mendmark/core/XmlCharsIsNameStartPinLaw" = some m.cls := findClass_of_methodNamed Bd.named
  have hnm := (name_of_methodNamed Bd.named Bd.method).1
  have X0 : Stand p l e ({ frames := 0, cells := 0, slots := 0, locals := 0 } : Room) s m #[(.int p1), (.int p2), (.int p3)] below meth c s₁ [] 0 0 := Stand.of_body Bd
  have e0 : s₁.heap = h0 := by rw [← hh, Bd.state]; rfl
  have N0 := Fr.nil n0
  obtain ⟨B, hB, pre0⟩ : ∃ B : State → Prop, (∀ t, B t → Steps p.tables e below (s₁.setTop (entryFrame m #[(.int p1), (.int p2), (.int p3)] 3)) t) ∧ ∀ t, SS p e below m s₁ 0 #[iv p1, iv p2, iv p3] [] t → B t := ⟨_, fun _ q => q, fun t kk => castTop (ef_3 m p1 p2 p3) kk⟩
  have pre1 : ∀ t, SS p e below m s₁ 2 #[iv p1, iv p2, iv p3] [(.int p2), (.int p1)] t → B t := fun t kk => pre0 t (by
    show SS p e below m s₁ 0 #[iv p1, iv p2, iv p3] [] _
    refine XS.iloadN X0.here hx rfl (hb hby d3_0) rfl ?_
    show SS p e below m s₁ 1 #[iv p1, iv p2, iv p3] [(.int p1)] _
    refine XS.iloadN X0.here hx rfl (hb hby d3_1) rfl ?_
    show SS p e below m s₁ 2 #[iv p1, iv p2, iv p3] [(.int p2), (.int p1)] _
    exact kk)
  by_cases hc2 : p1 < p2
  · have pre3 : ∀ t, SS p e below m s₁ 15 #[iv p1, iv p2, iv p3] [(.int (0 : Int32))] t → B t := fun t kk => pre1 t (by
      refine XS.icmpYes X0.here hx rfl (pc0 := 2) (pc' := 14) rfl (hb hby d3_2) rfl (tlt hc2).1 (by decide) (by decide) ?_
      show SS p e below m s₁ 14 #[iv p1, iv p2, iv p3] [] _
      refine XS.iconst X0.here hx rfl (hb hby d3_14) ?_
      show SS p e below m s₁ 15 #[iv p1, iv p2, iv p3] [(.int (0 : Int32))] _
      exact kk)
    obtain ⟨fs, hr, hrun, hended, hW, hsame⟩ := X0.leave (v := some (.int (0 : Int32))) (fun h => by rw [Bd.returns] at h; cases h)
    refine ⟨_, _, hB _ (pre3 _ ?_), hrun, hended, _, _, rfl, ?_, ⟨_, rfl⟩, hW, hsame.mono (by decide) (by decide)⟩
    · exact retN X0 hx (t := .boolean) Bd.returns (by simp) (hb hby d3_15) hr
    · exact ⟨by show _ = some (Value.int (f3 p1 p2 p3)); rw [f3, if_pos hc2], N0, e0⟩
  · have pre4 : ∀ t, SS p e below m s₁ 7 #[iv p1, iv p2, iv p3] [(.int p3), (.int p1)] t → B t := fun t kk => pre1 t (by
      refine XS.icmpNo X0.here hx rfl (hb hby d3_2) rfl (flt hc2).1 ?_
      show SS p e below m s₁ 5 #[iv p1, iv p2, iv p3] [] _
      refine XS.iloadN X0.here hx rfl (hb hby d3_5) rfl ?_
      show SS p e below m s₁ 6 #[iv p1, iv p2, iv p3] [(.int p1)] _
      refine XS.iloadN X0.here hx rfl (hb hby d3_6) rfl ?_
      show SS p e below m s₁ 7 #[iv p1, iv p2, iv p3] [(.int p3), (.int p1)] _
      exact kk)
    by_cases hc5 : p3 < p1
    · have pre6 : ∀ t, SS p e below m s₁ 15 #[iv p1, iv p2, iv p3] [(.int (0 : Int32))] t → B t := fun t kk => pre4 t (by
        refine XS.icmpYes X0.here hx rfl (pc0 := 7) (pc' := 14) rfl (hb hby d3_7) rfl (tlt hc5).2.2.1 (by decide) (by decide) ?_
        show SS p e below m s₁ 14 #[iv p1, iv p2, iv p3] [] _
        refine XS.iconst X0.here hx rfl (hb hby d3_14) ?_
        show SS p e below m s₁ 15 #[iv p1, iv p2, iv p3] [(.int (0 : Int32))] _
        exact kk)
      obtain ⟨fs, hr, hrun, hended, hW, hsame⟩ := X0.leave (v := some (.int (0 : Int32))) (fun h => by rw [Bd.returns] at h; cases h)
      refine ⟨_, _, hB _ (pre6 _ ?_), hrun, hended, _, _, rfl, ?_, ⟨_, rfl⟩, hW, hsame.mono (by decide) (by decide)⟩
      · exact retN X0 hx (t := .boolean) Bd.returns (by simp) (hb hby d3_15) hr
      · exact ⟨by show _ = some (Value.int (f3 p1 p2 p3)); rw [f3, if_neg hc2, if_pos hc5], N0, e0⟩
    · have pre7 : ∀ t, SS p e below m s₁ 15 #[iv p1, iv p2, iv p3] [(.int (1 : Int32))] t → B t := fun t kk => pre4 t (by
        refine XS.icmpNo X0.here hx rfl (hb hby d3_7) rfl (flt hc5).2.2.1 ?_
        show SS p e below m s₁ 10 #[iv p1, iv p2, iv p3] [] _
        refine XS.iconst X0.here hx rfl (hb hby d3_10) ?_
        show SS p e below m s₁ 11 #[iv p1, iv p2, iv p3] [(.int (1 : Int32))] _
        refine XS.goto X0.here hx rfl (pc0 := 11) (pc' := 15) rfl (hb hby d3_11) (by decide) (by decide) ?_
        show SS p e below m s₁ 15 #[iv p1, iv p2, iv p3] [(.int (1 : Int32))] _
        exact kk)
      obtain ⟨fs, hr, hrun, hended, hW, hsame⟩ := X0.leave (v := some (.int (1 : Int32))) (fun h => by rw [Bd.returns] at h; cases h)
      refine ⟨_, _, hB _ (pre7 _ ?_), hrun, hended, _, _, rfl, ?_, ⟨_, rfl⟩, hW, hsame.mono (by decide) (by decide)⟩
      · exact retN X0 hx (t := .boolean) Bd.returns (by simp) (hb hby d3_15) hr
      · exact ⟨by show _ = some (Value.int (f3 p1 p2 p3)); rw [f3, if_neg hc2, if_neg hc5], N0, e0⟩
theorem d1_0 : decode prog_63_method_4_code 0 = .ok (.iload_n 0, 1) := by decide +kernel
theorem d1_1 : decode prog_63_method_4_code 1 = .ok (.sipush 128, 3) := by decide +kernel
theorem d1_4 : decode prog_63_method_4_code 4 = .ok (.if_icmp .ge 48, 3) := by decide +kernel
theorem d1_7 : decode prog_63_method_4_code 7 = .ok (.iload_n 0, 1) := by decide +kernel
theorem d1_8 : decode prog_63_method_4_code 8 = .ok (.bipush 97, 2) := by decide +kernel
theorem d1_10 : decode prog_63_method_4_code 10 = .ok (.if_icmp .lt 9, 3) := by decide +kernel
theorem d1_13 : decode prog_63_method_4_code 13 = .ok (.iload_n 0, 1) := by decide +kernel
theorem d1_14 : decode prog_63_method_4_code 14 = .ok (.bipush 122, 2) := by decide +kernel
theorem d1_16 : decode prog_63_method_4_code 16 = .ok (.if_icmp .le 27, 3) := by decide +kernel
theorem d1_19 : decode prog_63_method_4_code 19 = .ok (.iload_n 0, 1) := by decide +kernel
theorem d1_20 : decode prog_63_method_4_code 20 = .ok (.bipush 65, 2) := by decide +kernel
theorem d1_22 : decode prog_63_method_4_code 22 = .ok (.if_icmp .lt 9, 3) := by decide +kernel
theorem d1_25 : decode prog_63_method_4_code 25 = .ok (.iload_n 0, 1) := by decide +kernel
theorem d1_26 : decode prog_63_method_4_code 26 = .ok (.bipush 90, 2) := by decide +kernel
theorem d1_28 : decode prog_63_method_4_code 28 = .ok (.if_icmp .le 15, 3) := by decide +kernel
theorem d1_31 : decode prog_63_method_4_code 31 = .ok (.iload_n 0, 1) := by decide +kernel
theorem d1_32 : decode prog_63_method_4_code 32 = .ok (.bipush 95, 2) := by decide +kernel
theorem d1_34 : decode prog_63_method_4_code 34 = .ok (.if_icmp .eq 9, 3) := by decide +kernel
theorem d1_37 : decode prog_63_method_4_code 37 = .ok (.iload_n 0, 1) := by decide +kernel
theorem d1_38 : decode prog_63_method_4_code 38 = .ok (.bipush 58, 2) := by decide +kernel
theorem d1_40 : decode prog_63_method_4_code 40 = .ok (.if_icmp .ne 7, 3) := by decide +kernel
theorem d1_43 : decode prog_63_method_4_code 43 = .ok (.iconst 1, 1) := by decide +kernel
theorem d1_44 : decode prog_63_method_4_code 44 = .ok (.goto 4, 3) := by decide +kernel
theorem d1_47 : decode prog_63_method_4_code 47 = .ok (.iconst 0, 1) := by decide +kernel
theorem d1_48 : decode prog_63_method_4_code 48 = .ok (.istore_n 1, 1) := by decide +kernel
theorem d1_49 : decode prog_63_method_4_code 49 = .ok (.goto 183, 3) := by decide +kernel
theorem d1_52 : decode prog_63_method_4_code 52 = .ok (.iload_n 0, 1) := by decide +kernel
theorem d1_53 : decode prog_63_method_4_code 53 = .ok (.sipush 768, 3) := by decide +kernel
theorem d1_56 : decode prog_63_method_4_code 56 = .ok (.if_icmp .ge 33, 3) := by decide +kernel
theorem d1_59 : decode prog_63_method_4_code 59 = .ok (.iload_n 0, 1) := by decide +kernel
theorem d1_60 : decode prog_63_method_4_code 60 = .ok (.sipush 192, 3) := by decide +kernel
theorem d1_63 : decode prog_63_method_4_code 63 = .ok (.if_icmp .lt 21, 3) := by decide +kernel
theorem d1_66 : decode prog_63_method_4_code 66 = .ok (.iload_n 0, 1) := by decide +kernel
theorem d1_67 : decode prog_63_method_4_code 67 = .ok (.sipush 215, 3) := by decide +kernel
theorem d1_70 : decode prog_63_method_4_code 70 = .ok (.if_icmp .eq 14, 3) := by decide +kernel
theorem d1_73 : decode prog_63_method_4_code 73 = .ok (.iload_n 0, 1) := by decide +kernel
theorem d1_74 : decode prog_63_method_4_code 74 = .ok (.sipush 247, 3) := by decide +kernel
theorem d1_77 : decode prog_63_method_4_code 77 = .ok (.if_icmp .eq 7, 3) := by decide +kernel
theorem d1_80 : decode prog_63_method_4_code 80 = .ok (.iconst 1, 1) := by decide +kernel
theorem d1_81 : decode prog_63_method_4_code 81 = .ok (.goto 4, 3) := by decide +kernel
theorem d1_84 : decode prog_63_method_4_code 84 = .ok (.iconst 0, 1) := by decide +kernel
theorem d1_85 : decode prog_63_method_4_code 85 = .ok (.istore_n 1, 1) := by decide +kernel
theorem d1_86 : decode prog_63_method_4_code 86 = .ok (.goto 146, 3) := by decide +kernel
theorem d1_89 : decode prog_63_method_4_code 89 = .ok (.iload_n 0, 1) := by decide +kernel
theorem d1_90 : decode prog_63_method_4_code 90 = .ok (.sipush 8192, 3) := by decide +kernel
theorem d1_93 : decode prog_63_method_4_code 93 = .ok (.if_icmp .ge 33, 3) := by decide +kernel
theorem d1_96 : decode prog_63_method_4_code 96 = .ok (.iload_n 0, 1) := by decide +kernel
theorem d1_97 : decode prog_63_method_4_code 97 = .ok (.sipush 880, 3) := by decide +kernel
theorem d1_100 : decode prog_63_method_4_code 100 = .ok (.if_icmp .lt 10, 3) := by decide +kernel
theorem d1_103 : decode prog_63_method_4_code 103 = .ok (.iload_n 0, 1) := by decide +kernel
theorem d1_104 : decode prog_63_method_4_code 104 = .ok (.sipush 893, 3) := by decide +kernel
theorem d1_107 : decode prog_63_method_4_code 107 = .ok (.if_icmp .le 10, 3) := by decide +kernel
theorem d1_110 : decode prog_63_method_4_code 110 = .ok (.iload_n 0, 1) := by decide +kernel
theorem d1_111 : decode prog_63_method_4_code 111 = .ok (.sipush 895, 3) := by decide +kernel
theorem d1_114 : decode prog_63_method_4_code 114 = .ok (.if_icmp .lt 7, 3) := by decide +kernel
theorem d1_117 : decode prog_63_method_4_code 117 = .ok (.iconst 1, 1) := by decide +kernel
theorem d1_118 : decode prog_63_method_4_code 118 = .ok (.goto 4, 3) := by decide +kernel
theorem d1_121 : decode prog_63_method_4_code 121 = .ok (.iconst 0, 1) := by decide +kernel
theorem d1_122 : decode prog_63_method_4_code 122 = .ok (.istore_n 1, 1) := by decide +kernel
theorem d1_123 : decode prog_63_method_4_code 123 = .ok (.goto 109, 3) := by decide +kernel
theorem d1_126 : decode prog_63_method_4_code 126 = .ok (.iload_n 0, 1) := by decide +kernel
theorem d1_127 : decode prog_63_method_4_code 127 = .ok (.sipush 12289, 3) := by decide +kernel
theorem d1_130 : decode prog_63_method_4_code 130 = .ok (.if_icmp .ge 54, 3) := by decide +kernel
theorem d1_133 : decode prog_63_method_4_code 133 = .ok (.iload_n 0, 1) := by decide +kernel
theorem d1_134 : decode prog_63_method_4_code 134 = .ok (.sipush 8204, 3) := by decide +kernel
theorem d1_137 : decode prog_63_method_4_code 137 = .ok (.if_icmp .eq 38, 3) := by decide +kernel
theorem d1_140 : decode prog_63_method_4_code 140 = .ok (.iload_n 0, 1) := by decide +kernel
theorem d1_141 : decode prog_63_method_4_code 141 = .ok (.sipush 8205, 3) := by decide +kernel
theorem d1_144 : decode prog_63_method_4_code 144 = .ok (.if_icmp .eq 31, 3) := by decide +kernel
theorem d1_147 : decode prog_63_method_4_code 147 = .ok (.iload_n 0, 1) := by decide +kernel
theorem d1_148 : decode prog_63_method_4_code 148 = .ok (.sipush 8304, 3) := by decide +kernel
theorem d1_151 : decode prog_63_method_4_code 151 = .ok (.if_icmp .lt 10, 3) := by decide +kernel
theorem d1_154 : decode prog_63_method_4_code 154 = .ok (.iload_n 0, 1) := by decide +kernel
theorem d1_155 : decode prog_63_method_4_code 155 = .ok (.sipush 8591, 3) := by decide +kernel
theorem d1_158 : decode prog_63_method_4_code 158 = .ok (.if_icmp .le 17, 3) := by decide +kernel
theorem d1_161 : decode prog_63_method_4_code 161 = .ok (.iload_n 0, 1) := by decide +kernel
theorem d1_162 : decode prog_63_method_4_code 162 = .ok (.sipush 11264, 3) := by decide +kernel
theorem d1_165 : decode prog_63_method_4_code 165 = .ok (.if_icmp .lt 14, 3) := by decide +kernel
theorem d1_168 : decode prog_63_method_4_code 168 = .ok (.iload_n 0, 1) := by decide +kernel
theorem d1_169 : decode prog_63_method_4_code 169 = .ok (.sipush 12271, 3) := by decide +kernel
theorem d1_172 : decode prog_63_method_4_code 172 = .ok (.if_icmp .gt 7, 3) := by decide +kernel
theorem d1_175 : decode prog_63_method_4_code 175 = .ok (.iconst 1, 1) := by decide +kernel
theorem d1_176 : decode prog_63_method_4_code 176 = .ok (.goto 4, 3) := by decide +kernel
theorem d1_179 : decode prog_63_method_4_code 179 = .ok (.iconst 0, 1) := by decide +kernel
theorem d1_180 : decode prog_63_method_4_code 180 = .ok (.istore_n 1, 1) := by decide +kernel
theorem d1_181 : decode prog_63_method_4_code 181 = .ok (.goto 51, 3) := by decide +kernel
theorem d1_184 : decode prog_63_method_4_code 184 = .ok (.iload_n 0, 1) := by decide +kernel
theorem d1_185 : decode prog_63_method_4_code 185 = .ok (.ldc 12, 2) := by decide +kernel
theorem d1_187 : decode prog_63_method_4_code 187 = .ok (.if_icmp .le 39, 3) := by decide +kernel
theorem d1_190 : decode prog_63_method_4_code 190 = .ok (.iload_n 0, 1) := by decide +kernel
theorem d1_191 : decode prog_63_method_4_code 191 = .ok (.ldc 13, 2) := by decide +kernel
theorem d1_193 : decode prog_63_method_4_code 193 = .ok (.if_icmp .lt 9, 3) := by decide +kernel
theorem d1_196 : decode prog_63_method_4_code 196 = .ok (.iload_n 0, 1) := by decide +kernel
theorem d1_197 : decode prog_63_method_4_code 197 = .ok (.ldc 14, 2) := by decide +kernel
theorem d1_199 : decode prog_63_method_4_code 199 = .ok (.if_icmp .le 27, 3) := by decide +kernel
theorem d1_202 : decode prog_63_method_4_code 202 = .ok (.iload_n 0, 1) := by decide +kernel
theorem d1_203 : decode prog_63_method_4_code 203 = .ok (.ldc 15, 2) := by decide +kernel
theorem d1_205 : decode prog_63_method_4_code 205 = .ok (.if_icmp .lt 9, 3) := by decide +kernel
theorem d1_208 : decode prog_63_method_4_code 208 = .ok (.iload_n 0, 1) := by decide +kernel
theorem d1_209 : decode prog_63_method_4_code 209 = .ok (.ldc 9, 2) := by decide +kernel
theorem d1_211 : decode prog_63_method_4_code 211 = .ok (.if_icmp .le 15, 3) := by decide +kernel
theorem d1_214 : decode prog_63_method_4_code 214 = .ok (.iload_n 0, 1) := by decide +kernel
theorem d1_215 : decode prog_63_method_4_code 215 = .ok (.ldc 10, 2) := by decide +kernel
theorem d1_217 : decode prog_63_method_4_code 217 = .ok (.if_icmp .lt 13, 3) := by decide +kernel
theorem d1_220 : decode prog_63_method_4_code 220 = .ok (.iload_n 0, 1) := by decide +kernel
theorem d1_221 : decode prog_63_method_4_code 221 = .ok (.ldc 16, 2) := by decide +kernel
theorem d1_223 : decode prog_63_method_4_code 223 = .ok (.if_icmp .gt 7, 3) := by decide +kernel
theorem d1_226 : decode prog_63_method_4_code 226 = .ok (.iconst 1, 1) := by decide +kernel
theorem d1_227 : decode prog_63_method_4_code 227 = .ok (.goto 4, 3) := by decide +kernel
theorem d1_230 : decode prog_63_method_4_code 230 = .ok (.iconst 0, 1) := by decide +kernel
theorem d1_231 : decode prog_63_method_4_code 231 = .ok (.istore_n 1, 1) := by decide +kernel
theorem d1_232 : decode prog_63_method_4_code 232 = .ok (.iload_n 1, 1) := by decide +kernel
theorem d1_233 : decode prog_63_method_4_code 233 = .ok (.ireturn, 1) := by decide +kernel
theorem pn_1 : plainName "com/example/mendmark/mendmark/core/XmlChars" = true := by first | (simp [plainName, overriddenIn]; done) | decide +kernel
theorem ef_1 (m : MethodId) (p1 : Int32) : entryFrame m #[(.int p1)] 2 = mkF m 0 #[iv p1, .unset] [] := by first | (simp [entryFrame, mkF, argsToLocals, Value.category]; done) | rfl
def f1 (p1 : Int32)  : Int32 := (if p1 < (128 : Int32) then (if p1 < (97 : Int32) then (if p1 < (65 : Int32) then (if p1 = (95 : Int32) then (1 : Int32) else (if p1 = (58 : Int32) then (1 : Int32) else (0 : Int32))) else (if (90 : Int32) < p1 then (if p1 = (95 : Int32) then (1 : Int32) else (if p1 = (58 : Int32) then (1 : Int32) else (0 : Int32))) else (1 : Int32))) else (if (122 : Int32) < p1 then (if p1 < (65 : Int32) then (if p1 = (95 : Int32) then (1 : Int32) else (if p1 = (58 : Int32) then (1 : Int32) else (0 : Int32))) else (if (90 : Int32) < p1 then (if p1 = (95 : Int32) then (1 : Int32) else (if p1 = (58 : Int32) then (1 : Int32) else (0 : Int32))) else (1 : Int32))) else (1 : Int32))) else (if p1 < (768 : Int32) then (if p1 < (192 : Int32) then (0 : Int32) else (if p1 = (215 : Int32) then (0 : Int32) else (if p1 = (247 : Int32) then (0 : Int32) else (1 : Int32)))) else (if p1 < (8192 : Int32) then (if p1 < (880 : Int32) then (if p1 < (895 : Int32) then (0 : Int32) else (1 : Int32)) else (if (893 : Int32) < p1 then (if p1 < (895 : Int32) then (0 : Int32) else (1 : Int32)) else (1 : Int32))) else (if p1 < (12289 : Int32) then (if p1 = (8204 : Int32) then (1 : Int32) else (if p1 = (8205 : Int32) then (1 : Int32) else (if p1 < (8304 : Int32) then (if p1 < (11264 : Int32) then (0 : Int32) else (if (12271 : Int32) < p1 then (0 : Int32) else (1 : Int32))) else (if (8591 : Int32) < p1 then (if p1 < (11264 : Int32) then (0 : Int32) else (if (12271 : Int32) < p1 then (0 : Int32) else (1 : Int32))) else (1 : Int32))))) else (if (55295 : Int32) < p1 then (if p1 < (63744 : Int32) then (if p1 < (65008 : Int32) then (if p1 < (65536 : Int32) then (0 : Int32) else (if (983039 : Int32) < p1 then (0 : Int32) else (1 : Int32))) else (if (65533 : Int32) < p1 then (if p1 < (65536 : Int32) then (0 : Int32) else (if (983039 : Int32) < p1 then (0 : Int32) else (1 : Int32))) else (1 : Int32))) else (if (64975 : Int32) < p1 then (if p1 < (65008 : Int32) then (if p1 < (65536 : Int32) then (0 : Int32) else (if (983039 : Int32) < p1 then (0 : Int32) else (1 : Int32))) else (if (65533 : Int32) < p1 then (if p1 < (65536 : Int32) then (0 : Int32) else (if (983039 : Int32) < p1 then (0 : Int32) else (1 : Int32))) else (1 : Int32))) else (1 : Int32))) else (1 : Int32))))))
set_option maxRecDepth 65536 in
set_option maxHeartbeats 40000000 in
theorem rm1 (l : Launch) (Z : State) (a0 : Array Value) (hw : ∀ d ∈ tables_1, d.before a0 Z = true) (ws : List Jvm.Cond) (p1 : Int32)  (h0 : Heap) (n0 : Nat) (Z0 : n0 ≤ h0.size)  :
    MetFree l (⟨"com/example/mendmark/mendmark/core/XmlChars", "isNameStart", "(I)Z"⟩ : MethodName) (head1 (Jvm.Cond.code (⟨"com/example/mendmark/mendmark/core/XmlChars", "isNameStart", "(I)Z"⟩ : MethodName) prog_63_method_4_code 2 (some .boolean) :: ws) ({ frames := 0, cells := 0, slots := 0, locals := 0 } : Room)) (fun a U => a = #[(.int p1)] ∧ Z.Warmed39 U.vm ∧ U.heap = h0) (fun _ _ _ _ _ => True) (fun _ U o U' => ∃ v L, o = .returned v ∧ QI (f1 p1) h0 n0 v U'.heap L ∧ FrameEnd U o U' L ({ frames := 0, cells := 0, slots := 0, locals := 0 } : Room).cells ({ frames := 0, cells := 0, slots := 0, locals := 0 } : Room).slots) := by
  refine MetFree.of_bodySF (plainFor_of_name pn_1) hisR ?_
  intro p e s m args below meth c s₁ Bd hml0 hP hK
  obtain ⟨rfl, hZ, hh⟩ := hP
  have hx := Bd.exec
  have hby := Bd.bytes
  have hml : c.maxLocals = 2 := hml0
  have hown : s.vm.findClass "com/example/mendmark/mendmark/core/XmlChars" = some m.cls := findClass_of_methodNamed Bd.named
  have hnm := (name_of_methodNamed Bd.named Bd.method).1
  have X0 : Stand p l e ({ frames := 0, cells := 0, slots := 0, locals := 0 } : Room) s m #[(.int p1)] below meth c s₁ [] 0 0 := Stand.of_body Bd
  have e0 : s₁.heap = h0 := by rw [← hh, Bd.state]; rfl
  have N0 := Fr.nil n0
  obtain ⟨B, hB, pre0⟩ : ∃ B : State → Prop, (∀ t, B t → Steps p.tables e below (s₁.setTop (entryFrame m #[(.int p1)] 2)) t) ∧ ∀ t, SS p e below m s₁ 0 #[iv p1, .unset] [] t → B t := ⟨_, fun _ q => q, fun t kk => castTop (ef_1 m p1) kk⟩
  have pre1 : ∀ t, SS p e below m s₁ 4 #[iv p1, .unset] [(.int (128 : Int32)), (.int p1)] t → B t := fun t kk => pre0 t (by
    show SS p e below m s₁ 0 #[iv p1, .unset] [] _
    refine XS.iloadN X0.here hx rfl (hb hby d1_0) rfl ?_
    show SS p e below m s₁ 1 #[iv p1, .unset] [(.int p1)] _
    refine XS.sipush X0.here hx rfl (hb hby d1_1) ?_
    show SS p e below m s₁ 4 #[iv p1, .unset] [(.int (128 : Int32)), (.int p1)] _
    exact kk)
  by_cases hc2 : p1 < (128 : Int32)
  · have pre3 : ∀ t, SS p e below m s₁ 10 #[iv p1, .unset] [(.int (97 : Int32)), (.int p1)] t → B t := fun t kk => pre1 t (by
      refine XS.icmpNo X0.here hx rfl (hb hby d1_4) rfl (tlt hc2).2.1 ?_
      show SS p e below m s₁ 7 #[iv p1, .unset] [] _
      refine XS.iloadN X0.here hx rfl (hb hby d1_7) rfl ?_
      show SS p e below m s₁ 8 #[iv p1, .unset] [(.int p1)] _
      refine XS.bipush X0.here hx rfl (hb hby d1_8) ?_
      show SS p e below m s₁ 10 #[iv p1, .unset] [(.int (97 : Int32)), (.int p1)] _
      exact kk)
    by_cases hc4 : p1 < (97 : Int32)
    · have pre5 : ∀ t, SS p e below m s₁ 22 #[iv p1, .unset] [(.int (65 : Int32)), (.int p1)] t → B t := fun t kk => pre3 t (by
        refine XS.icmpYes X0.here hx rfl (pc0 := 10) (pc' := 19) rfl (hb hby d1_10) rfl (tlt hc4).1 (by decide) (by decide) ?_
        show SS p e below m s₁ 19 #[iv p1, .unset] [] _
        refine XS.iloadN X0.here hx rfl (hb hby d1_19) rfl ?_
        show SS p e below m s₁ 20 #[iv p1, .unset] [(.int p1)] _
        refine XS.bipush X0.here hx rfl (hb hby d1_20) ?_
        show SS p e below m s₁ 22 #[iv p1, .unset] [(.int (65 : Int32)), (.int p1)] _
        exact kk)
      by_cases hc6 : p1 < (65 : Int32)
      · have pre7 : ∀ t, SS p e below m s₁ 34 #[iv p1, .unset] [(.int (95 : Int32)), (.int p1)] t → B t := fun t kk => pre5 t (by
          refine XS.icmpYes X0.here hx rfl (pc0 := 22) (pc' := 31) rfl (hb hby d1_22) rfl (tlt hc6).1 (by decide) (by decide) ?_
          show SS p e below m s₁ 31 #[iv p1, .unset] [] _
          refine XS.iloadN X0.here hx rfl (hb hby d1_31) rfl ?_
          show SS p e below m s₁ 32 #[iv p1, .unset] [(.int p1)] _
          refine XS.bipush X0.here hx rfl (hb hby d1_32) ?_
          show SS p e below m s₁ 34 #[iv p1, .unset] [(.int (95 : Int32)), (.int p1)] _
          exact kk)
        by_cases hc8 : p1 = (95 : Int32)
        · have pre9 : ∀ t, SS p e below m s₁ 233 #[iv p1, iv (1 : Int32)] [(.int (1 : Int32))] t → B t := fun t kk => pre7 t (by
            refine XS.icmpYes X0.here hx rfl (pc0 := 34) (pc' := 43) rfl (hb hby d1_34) rfl (teq hc8).1 (by decide) (by decide) ?_
            show SS p e below m s₁ 43 #[iv p1, .unset] [] _
            refine XS.iconst X0.here hx rfl (hb hby d1_43) ?_
            show SS p e below m s₁ 44 #[iv p1, .unset] [(.int (1 : Int32))] _
            refine XS.goto X0.here hx rfl (pc0 := 44) (pc' := 48) rfl (hb hby d1_44) (by decide) (by decide) ?_
            show SS p e below m s₁ 48 #[iv p1, .unset] [(.int (1 : Int32))] _
            refine XS.istoreN X0.here hx rfl (hb hby d1_48) rfl (l' := #[iv p1, iv (1 : Int32)]) rfl ?_
            show SS p e below m s₁ 49 #[iv p1, iv (1 : Int32)] [] _
            refine XS.goto X0.here hx rfl (pc0 := 49) (pc' := 232) rfl (hb hby d1_49) (by decide) (by decide) ?_
            show SS p e below m s₁ 232 #[iv p1, iv (1 : Int32)] [] _
            refine XS.iloadN X0.here hx rfl (hb hby d1_232) rfl ?_
            show SS p e below m s₁ 233 #[iv p1, iv (1 : Int32)] [(.int (1 : Int32))] _
            exact kk)
          obtain ⟨fs, hr, hrun, hended, hW, hsame⟩ := X0.leave (v := some (.int (1 : Int32))) (fun h => by rw [Bd.returns] at h; cases h)
          refine ⟨_, _, hB _ (pre9 _ ?_), hrun, hended, _, _, rfl, ?_, ⟨_, rfl⟩, hW, hsame.mono (by decide) (by decide)⟩
          · exact retN X0 hx (t := .boolean) Bd.returns (by simp) (hb hby d1_233) hr
          · exact ⟨by show _ = some (Value.int (f1 p1)); rw [f1, if_pos hc2, if_pos hc4, if_pos hc6, if_pos hc8], N0, e0⟩
        · have pre10 : ∀ t, SS p e below m s₁ 40 #[iv p1, .unset] [(.int (58 : Int32)), (.int p1)] t → B t := fun t kk => pre7 t (by
            refine XS.icmpNo X0.here hx rfl (hb hby d1_34) rfl (feq hc8).1 ?_
            show SS p e below m s₁ 37 #[iv p1, .unset] [] _
            refine XS.iloadN X0.here hx rfl (hb hby d1_37) rfl ?_
            show SS p e below m s₁ 38 #[iv p1, .unset] [(.int p1)] _
            refine XS.bipush X0.here hx rfl (hb hby d1_38) ?_
            show SS p e below m s₁ 40 #[iv p1, .unset] [(.int (58 : Int32)), (.int p1)] _
            exact kk)
          by_cases hc11 : p1 = (58 : Int32)
          · have pre12 : ∀ t, SS p e below m s₁ 233 #[iv p1, iv (1 : Int32)] [(.int (1 : Int32))] t → B t := fun t kk => pre10 t (by
              refine XS.icmpNo X0.here hx rfl (hb hby d1_40) rfl (teq hc11).2 ?_
              show SS p e below m s₁ 43 #[iv p1, .unset] [] _
              refine XS.iconst X0.here hx rfl (hb hby d1_43) ?_
              show SS p e below m s₁ 44 #[iv p1, .unset] [(.int (1 : Int32))] _
              refine XS.goto X0.here hx rfl (pc0 := 44) (pc' := 48) rfl (hb hby d1_44) (by decide) (by decide) ?_
              show SS p e below m s₁ 48 #[iv p1, .unset] [(.int (1 : Int32))] _
              refine XS.istoreN X0.here hx rfl (hb hby d1_48) rfl (l' := #[iv p1, iv (1 : Int32)]) rfl ?_
              show SS p e below m s₁ 49 #[iv p1, iv (1 : Int32)] [] _
              refine XS.goto X0.here hx rfl (pc0 := 49) (pc' := 232) rfl (hb hby d1_49) (by decide) (by decide) ?_
              show SS p e below m s₁ 232 #[iv p1, iv (1 : Int32)] [] _
              refine XS.iloadN X0.here hx rfl (hb hby d1_232) rfl ?_
              show SS p e below m s₁ 233 #[iv p1, iv (1 : Int32)] [(.int (1 : Int32))] _
              exact kk)
            obtain ⟨fs, hr, hrun, hended, hW, hsame⟩ := X0.leave (v := some (.int (1 : Int32))) (fun h => by rw [Bd.returns] at h; cases h)
            refine ⟨_, _, hB _ (pre12 _ ?_), hrun, hended, _, _, rfl, ?_, ⟨_, rfl⟩, hW, hsame.mono (by decide) (by decide)⟩
            · exact retN X0 hx (t := .boolean) Bd.returns (by simp) (hb hby d1_233) hr
            · exact ⟨by show _ = some (Value.int (f1 p1)); rw [f1, if_pos hc2, if_pos hc4, if_pos hc6, if_neg hc8, if_pos hc11], N0, e0⟩
          · have pre13 : ∀ t, SS p e below m s₁ 233 #[iv p1, iv (0 : Int32)] [(.int (0 : Int32))] t → B t := fun t kk => pre10 t (by
              refine XS.icmpYes X0.here hx rfl (pc0 := 40) (pc' := 47) rfl (hb hby d1_40) rfl (feq hc11).2 (by decide) (by decide) ?_
              show SS p e below m s₁ 47 #[iv p1, .unset] [] _
              refine XS.iconst X0.here hx rfl (hb hby d1_47) ?_
              show SS p e below m s₁ 48 #[iv p1, .unset] [(.int (0 : Int32))] _
              refine XS.istoreN X0.here hx rfl (hb hby d1_48) rfl (l' := #[iv p1, iv (0 : Int32)]) rfl ?_
              show SS p e below m s₁ 49 #[iv p1, iv (0 : Int32)] [] _
              refine XS.goto X0.here hx rfl (pc0 := 49) (pc' := 232) rfl (hb hby d1_49) (by decide) (by decide) ?_
              show SS p e below m s₁ 232 #[iv p1, iv (0 : Int32)] [] _
              refine XS.iloadN X0.here hx rfl (hb hby d1_232) rfl ?_
              show SS p e below m s₁ 233 #[iv p1, iv (0 : Int32)] [(.int (0 : Int32))] _
              exact kk)
            obtain ⟨fs, hr, hrun, hended, hW, hsame⟩ := X0.leave (v := some (.int (0 : Int32))) (fun h => by rw [Bd.returns] at h; cases h)
            refine ⟨_, _, hB _ (pre13 _ ?_), hrun, hended, _, _, rfl, ?_, ⟨_, rfl⟩, hW, hsame.mono (by decide) (by decide)⟩
            · exact retN X0 hx (t := .boolean) Bd.returns (by simp) (hb hby d1_233) hr
            · exact ⟨by show _ = some (Value.int (f1 p1)); rw [f1, if_pos hc2, if_pos hc4, if_pos hc6, if_neg hc8, if_neg hc11], N0, e0⟩
      · have pre14 : ∀ t, SS p e below m s₁ 28 #[iv p1, .unset] [(.int (90 : Int32)), (.int p1)] t → B t := fun t kk => pre5 t (by
          refine XS.icmpNo X0.here hx rfl (hb hby d1_22) rfl (flt hc6).1 ?_
          show SS p e below m s₁ 25 #[iv p1, .unset] [] _
          refine XS.iloadN X0.here hx rfl (hb hby d1_25) rfl ?_
          show SS p e below m s₁ 26 #[iv p1, .unset] [(.int p1)] _
          refine XS.bipush X0.here hx rfl (hb hby d1_26) ?_
          show SS p e below m s₁ 28 #[iv p1, .unset] [(.int (90 : Int32)), (.int p1)] _
          exact kk)
        by_cases hc15 : (90 : Int32) < p1
        · have pre16 : ∀ t, SS p e below m s₁ 34 #[iv p1, .unset] [(.int (95 : Int32)), (.int p1)] t → B t := fun t kk => pre14 t (by
            refine XS.icmpNo X0.here hx rfl (hb hby d1_28) rfl (tlt hc15).2.2.2 ?_
            show SS p e below m s₁ 31 #[iv p1, .unset] [] _
            refine XS.iloadN X0.here hx rfl (hb hby d1_31) rfl ?_
            show SS p e below m s₁ 32 #[iv p1, .unset] [(.int p1)] _
            refine XS.bipush X0.here hx rfl (hb hby d1_32) ?_
            show SS p e below m s₁ 34 #[iv p1, .unset] [(.int (95 : Int32)), (.int p1)] _
            exact kk)
          by_cases hc17 : p1 = (95 : Int32)
          · have pre18 : ∀ t, SS p e below m s₁ 233 #[iv p1, iv (1 : Int32)] [(.int (1 : Int32))] t → B t := fun t kk => pre16 t (by
              refine XS.icmpYes X0.here hx rfl (pc0 := 34) (pc' := 43) rfl (hb hby d1_34) rfl (teq hc17).1 (by decide) (by decide) ?_
              show SS p e below m s₁ 43 #[iv p1, .unset] [] _
              refine XS.iconst X0.here hx rfl (hb hby d1_43) ?_
              show SS p e below m s₁ 44 #[iv p1, .unset] [(.int (1 : Int32))] _
              refine XS.goto X0.here hx rfl (pc0 := 44) (pc' := 48) rfl (hb hby d1_44) (by decide) (by decide) ?_
              show SS p e below m s₁ 48 #[iv p1, .unset] [(.int (1 : Int32))] _
              refine XS.istoreN X0.here hx rfl (hb hby d1_48) rfl (l' := #[iv p1, iv (1 : Int32)]) rfl ?_
              show SS p e below m s₁ 49 #[iv p1, iv (1 : Int32)] [] _
              refine XS.goto X0.here hx rfl (pc0 := 49) (pc' := 232) rfl (hb hby d1_49) (by decide) (by decide) ?_
              show SS p e below m s₁ 232 #[iv p1, iv (1 : Int32)] [] _
              refine XS.iloadN X0.here hx rfl (hb hby d1_232) rfl ?_
              show SS p e below m s₁ 233 #[iv p1, iv (1 : Int32)] [(.int (1 : Int32))] _
              exact kk)
            obtain ⟨fs, hr, hrun, hended, hW, hsame⟩ := X0.leave (v := some (.int (1 : Int32))) (fun h => by rw [Bd.returns] at h; cases h)
            refine ⟨_, _, hB _ (pre18 _ ?_), hrun, hended, _, _, rfl, ?_, ⟨_, rfl⟩, hW, hsame.mono (by decide) (by decide)⟩
            · exact retN X0 hx (t := .boolean) Bd.returns (by simp) (hb hby d1_233) hr
            · exact ⟨by show _ = some (Value.int (f1 p1)); rw [f1, if_pos hc2, if_pos hc4, if_neg hc6, if_pos hc15, if_pos hc17], N0, e0⟩
          · have pre19 : ∀ t, SS p e below m s₁ 40 #[iv p1, .unset] [(.int (58 : Int32)), (.int p1)] t → B t := fun t kk => pre16 t (by
              refine XS.icmpNo X0.here hx rfl (hb hby d1_34) rfl (feq hc17).1 ?_
              show SS p e below m s₁ 37 #[iv p1, .unset] [] _
              refine XS.iloadN X0.here hx rfl (hb hby d1_37) rfl ?_
              show SS p e below m s₁ 38 #[iv p1, .unset] [(.int p1)] _
              refine XS.bipush X0.here hx rfl (hb hby d1_38) ?_
              show SS p e below m s₁ 40 #[iv p1, .unset] [(.int (58 : Int32)), (.int p1)] _
              exact kk)
            by_cases hc20 : p1 = (58 : Int32)
            · have pre21 : ∀ t, SS p e below m s₁ 233 #[iv p1, iv (1 : Int32)] [(.int (1 : Int32))] t → B t := fun t kk => pre19 t (by
                refine XS.icmpNo X0.here hx rfl (hb hby d1_40) rfl (teq hc20).2 ?_
                show SS p e below m s₁ 43 #[iv p1, .unset] [] _
                refine XS.iconst X0.here hx rfl (hb hby d1_43) ?_
                show SS p e below m s₁ 44 #[iv p1, .unset] [(.int (1 : Int32))] _
                refine XS.goto X0.here hx rfl (pc0 := 44) (pc' := 48) rfl (hb hby d1_44) (by decide) (by decide) ?_
                show SS p e below m s₁ 48 #[iv p1, .unset] [(.int (1 : Int32))] _
                refine XS.istoreN X0.here hx rfl (hb hby d1_48) rfl (l' := #[iv p1, iv (1 : Int32)]) rfl ?_
                show SS p e below m s₁ 49 #[iv p1, iv (1 : Int32)] [] _
                refine XS.goto X0.here hx rfl (pc0 := 49) (pc' := 232) rfl (hb hby d1_49) (by decide) (by decide) ?_
                show SS p e below m s₁ 232 #[iv p1, iv (1 : Int32)] [] _
                refine XS.iloadN X0.here hx rfl (hb hby d1_232) rfl ?_
                show SS p e below m s₁ 233 #[iv p1, iv (1 : Int32)] [(.int (1 : Int32))] _
                exact kk)
              obtain ⟨fs, hr, hrun, hended, hW, hsame⟩ := X0.leave (v := some (.int (1 : Int32))) (fun h => by rw [Bd.returns] at h; cases h)
              refine ⟨_, _, hB _ (pre21 _ ?_), hrun, hended, _, _, rfl, ?_, ⟨_, rfl⟩, hW, hsame.mono (by decide) (by decide)⟩
              · exact retN X0 hx (t := .boolean) Bd.returns (by simp) (hb hby d1_233) hr
              · exact ⟨by show _ = some (Value.int (f1 p1)); rw [f1, if_pos hc2, if_pos hc4, if_neg hc6, if_pos hc15, if_neg hc17, if_pos hc20], N0, e0⟩
            · have pre22 : ∀ t, SS p e below m s₁ 233 #[iv p1, iv (0 : Int32)] [(.int (0 : Int32))] t → B t := fun t kk => pre19 t (by
                refine XS.icmpYes X0.here hx rfl (pc0 := 40) (pc' := 47) rfl (hb hby d1_40) rfl (feq hc20).2 (by decide) (by decide) ?_
                show SS p e below m s₁ 47 #[iv p1, .unset] [] _
                refine XS.iconst X0.here hx rfl (hb hby d1_47) ?_
                show SS p e below m s₁ 48 #[iv p1, .unset] [(.int (0 : Int32))] _
                refine XS.istoreN X0.here hx rfl (hb hby d1_48) rfl (l' := #[iv p1, iv (0 : Int32)]) rfl ?_
                show SS p e below m s₁ 49 #[iv p1, iv (0 : Int32)] [] _
                refine XS.goto X0.here hx rfl (pc0 := 49) (pc' := 232) rfl (hb hby d1_49) (by decide) (by decide) ?_
                show SS p e below m s₁ 232 #[iv p1, iv (0 : Int32)] [] _
                refine XS.iloadN X0.here hx rfl (hb hby d1_232) rfl ?_
                show SS p e below m s₁ 233 #[iv p1, iv (0 : Int32)] [(.int (0 : Int32))] _
                exact kk)
              obtain ⟨fs, hr, hrun, hended, hW, hsame⟩ := X0.leave (v := some (.int (0 : Int32))) (fun h => by rw [Bd.returns] at h; cases h)
              refine ⟨_, _, hB _ (pre22 _ ?_), hrun, hended, _, _, rfl, ?_, ⟨_, rfl⟩, hW, hsame.mono (by decide) (by decide)⟩
              · exact retN X0 hx (t := .boolean) Bd.returns (by simp) (hb hby d1_233) hr
              · exact ⟨by show _ = some (Value.int (f1 p1)); rw [f1, if_pos hc2, if_pos hc4, if_neg hc6, if_pos hc15, if_neg hc17, if_neg hc20], N0, e0⟩
        · have pre23 : ∀ t, SS p e below m s₁ 233 #[iv p1, iv (1 : Int32)] [(.int (1 : Int32))] t → B t := fun t kk => pre14 t (by
            refine XS.icmpYes X0.here hx rfl (pc0 := 28) (pc' := 43) rfl (hb hby d1_28) rfl (flt hc15).2.2.2 (by decide) (by decide) ?_
            show SS p e below m s₁ 43 #[iv p1, .unset] [] _
            refine XS.iconst X0.here hx rfl (hb hby d1_43) ?_
            show SS p e below m s₁ 44 #[iv p1, .unset] [(.int (1 : Int32))] _
            refine XS.goto X0.here hx rfl (pc0 := 44) (pc' := 48) rfl (hb hby d1_44) (by decide) (by decide) ?_
            show SS p e below m s₁ 48 #[iv p1, .unset] [(.int (1 : Int32))] _
            refine XS.istoreN X0.here hx rfl (hb hby d1_48) rfl (l' := #[iv p1, iv (1 : Int32)]) rfl ?_
            show SS p e below m s₁ 49 #[iv p1, iv (1 : Int32)] [] _
            refine XS.goto X0.here hx rfl (pc0 := 49) (pc' := 232) rfl (hb hby d1_49) (by decide) (by decide) ?_
            show SS p e below m s₁ 232 #[iv p1, iv (1 : Int32)] [] _
            refine XS.iloadN X0.here hx rfl (hb hby d1_232) rfl ?_
            show SS p e below m s₁ 233 #[iv p1, iv (1 : Int32)] [(.int (1 : Int32))] _
            exact kk)
          obtain ⟨fs, hr, hrun, hended, hW, hsame⟩ := X0.leave (v := some (.int (1 : Int32))) (fun h => by rw [Bd.returns] at h; cases h)
          refine ⟨_, _, hB _ (pre23 _ ?_), hrun, hended, _, _, rfl, ?_, ⟨_, rfl⟩, hW, hsame.mono (by decide) (by decide)⟩
          · exact retN X0 hx (t := .boolean) Bd.returns (by simp) (hb hby d1_233) hr
          · exact ⟨by show _ = some (Value.int (f1 p1)); rw [f1, if_pos hc2, if_pos hc4, if_neg hc6, if_neg hc15], N0, e0⟩
    · have pre24 : ∀ t, SS p e below m s₁ 16 #[iv p1, .unset] [(.int (122 : Int32)), (.int p1)] t → B t := fun t kk => pre3 t (by
        refine XS.icmpNo X0.here hx rfl (hb hby d1_10) rfl (flt hc4).1 ?_
        show SS p e below m s₁ 13 #[iv p1, .unset] [] _
        refine XS.iloadN X0.here hx rfl (hb hby d1_13) rfl ?_
        show SS p e below m s₁ 14 #[iv p1, .unset] [(.int p1)] _
        refine XS.bipush X0.here hx rfl (hb hby d1_14) ?_
        show SS p e below m s₁ 16 #[iv p1, .unset] [(.int (122 : Int32)), (.int p1)] _
        exact kk)
      by_cases hc25 : (122 : Int32) < p1
      · have pre26 : ∀ t, SS p e below m s₁ 22 #[iv p1, .unset] [(.int (65 : Int32)), (.int p1)] t → B t := fun t kk => pre24 t (by
          refine XS.icmpNo X0.here hx rfl (hb hby d1_16) rfl (tlt hc25).2.2.2 ?_
          show SS p e below m s₁ 19 #[iv p1, .unset] [] _
          refine XS.iloadN X0.here hx rfl (hb hby d1_19) rfl ?_
          show SS p e below m s₁ 20 #[iv p1, .unset] [(.int p1)] _
          refine XS.bipush X0.here hx rfl (hb hby d1_20) ?_
          show SS p e below m s₁ 22 #[iv p1, .unset] [(.int (65 : Int32)), (.int p1)] _
          exact kk)
        by_cases hc27 : p1 < (65 : Int32)
        · have pre28 : ∀ t, SS p e below m s₁ 34 #[iv p1, .unset] [(.int (95 : Int32)), (.int p1)] t → B t := fun t kk => pre26 t (by
            refine XS.icmpYes X0.here hx rfl (pc0 := 22) (pc' := 31) rfl (hb hby d1_22) rfl (tlt hc27).1 (by decide) (by decide) ?_
            show SS p e below m s₁ 31 #[iv p1, .unset] [] _
            refine XS.iloadN X0.here hx rfl (hb hby d1_31) rfl ?_
            show SS p e below m s₁ 32 #[iv p1, .unset] [(.int p1)] _
            refine XS.bipush X0.here hx rfl (hb hby d1_32) ?_
            show SS p e below m s₁ 34 #[iv p1, .unset] [(.int (95 : Int32)), (.int p1)] _
            exact kk)
          by_cases hc29 : p1 = (95 : Int32)
          · have pre30 : ∀ t, SS p e below m s₁ 233 #[iv p1, iv (1 : Int32)] [(.int (1 : Int32))] t → B t := fun t kk => pre28 t (by
              refine XS.icmpYes X0.here hx rfl (pc0 := 34) (pc' := 43) rfl (hb hby d1_34) rfl (teq hc29).1 (by decide) (by decide) ?_
              show SS p e below m s₁ 43 #[iv p1, .unset] [] _
              refine XS.iconst X0.here hx rfl (hb hby d1_43) ?_
              show SS p e below m s₁ 44 #[iv p1, .unset] [(.int (1 : Int32))] _
              refine XS.goto X0.here hx rfl (pc0 := 44) (pc' := 48) rfl (hb hby d1_44) (by decide) (by decide) ?_
              show SS p e below m s₁ 48 #[iv p1, .unset] [(.int (1 : Int32))] _
              refine XS.istoreN X0.here hx rfl (hb hby d1_48) rfl (l' := #[iv p1, iv (1 : Int32)]) rfl ?_
              show SS p e below m s₁ 49 #[iv p1, iv (1 : Int32)] [] _
              refine XS.goto X0.here hx rfl (pc0 := 49) (pc' := 232) rfl (hb hby d1_49) (by decide) (by decide) ?_
              show SS p e below m s₁ 232 #[iv p1, iv (1 : Int32)] [] _
              refine XS.iloadN X0.here hx rfl (hb hby d1_232) rfl ?_
              show SS p e below m s₁ 233 #[iv p1, iv (1 : Int32)] [(.int (1 : Int32))] _
              exact kk)
            obtain ⟨fs, hr, hrun, hended, hW, hsame⟩ := X0.leave (v := some (.int (1 : Int32))) (fun h => by rw [Bd.returns] at h; cases h)
            refine ⟨_, _, hB _ (pre30 _ ?_), hrun, hended, _, _, rfl, ?_, ⟨_, rfl⟩, hW, hsame.mono (by decide) (by decide)⟩
            · exact retN X0 hx (t := .boolean) Bd.returns (by simp) (hb hby d1_233) hr
            · exact ⟨by show _ = some (Value.int (f1 p1)); rw [f1, if_pos hc2, if_neg hc4, if_pos hc25, if_pos hc27, if_pos hc29], N0, e0⟩
          · have pre31 : ∀ t, SS p e below m s₁ 40 #[iv p1, .unset] [(.int (58 : Int32)), (.int p1)] t → B t := fun t kk => pre28 t (by
              refine XS.icmpNo X0.here hx rfl (hb hby d1_34) rfl (feq hc29).1 ?_
              show SS p e below m s₁ 37 #[iv p1, .unset] [] _
              refine XS.iloadN X0.here hx rfl (hb hby d1_37) rfl ?_
              show SS p e below m s₁ 38 #[iv p1, .unset] [(.int p1)] _
              refine XS.bipush X0.here hx rfl (hb hby d1_38) ?_
              show SS p e below m s₁ 40 #[iv p1, .unset] [(.int (58 : Int32)), (.int p1)] _
              exact kk)
            by_cases hc32 : p1 = (58 : Int32)
            · have pre33 : ∀ t, SS p e below m s₁ 233 #[iv p1, iv (1 : Int32)] [(.int (1 : Int32))] t → B t := fun t kk => pre31 t (by
                refine XS.icmpNo X0.here hx rfl (hb hby d1_40) rfl (teq hc32).2 ?_
                show SS p e below m s₁ 43 #[iv p1, .unset] [] _
                refine XS.iconst X0.here hx rfl (hb hby d1_43) ?_
                show SS p e below m s₁ 44 #[iv p1, .unset] [(.int (1 : Int32))] _
                refine XS.goto X0.here hx rfl (pc0 := 44) (pc' := 48) rfl (hb hby d1_44) (by decide) (by decide) ?_
                show SS p e below m s₁ 48 #[iv p1, .unset] [(.int (1 : Int32))] _
                refine XS.istoreN X0.here hx rfl (hb hby d1_48) rfl (l' := #[iv p1, iv (1 : Int32)]) rfl ?_
                show SS p e below m s₁ 49 #[iv p1, iv (1 : Int32)] [] _
                refine XS.goto X0.here hx rfl (pc0 := 49) (pc' := 232) rfl (hb hby d1_49) (by decide) (by decide) ?_
                show SS p e below m s₁ 232 #[iv p1, iv (1 : Int32)] [] _
                refine XS.iloadN X0.here hx rfl (hb hby d1_232) rfl ?_
                show SS p e below m s₁ 233 #[iv p1, iv (1 : Int32)] [(.int (1 : Int32))] _
                exact kk)
              obtain ⟨fs, hr, hrun, hended, hW, hsame⟩ := X0.leave (v := some (.int (1 : Int32))) (fun h => by rw [Bd.returns] at h; cases h)
              refine ⟨_, _, hB _ (pre33 _ ?_), hrun, hended, _, _, rfl, ?_, ⟨_, rfl⟩, hW, hsame.mono (by decide) (by decide)⟩
              · exact retN X0 hx (t := .boolean) Bd.returns (by simp) (hb hby d1_233) hr
              · exact ⟨by show _ = some (Value.int (f1 p1)); rw [f1, if_pos hc2, if_neg hc4, if_pos hc25, if_pos hc27, if_neg hc29, if_pos hc32], N0, e0⟩
            · have pre34 : ∀ t, SS p e below m s₁ 233 #[iv p1, iv (0 : Int32)] [(.int (0 : Int32))] t → B t := fun t kk => pre31 t (by
                refine XS.icmpYes X0.here hx rfl (pc0 := 40) (pc' := 47) rfl (hb hby d1_40) rfl (feq hc32).2 (by decide) (by decide) ?_
                show SS p e below m s₁ 47 #[iv p1, .unset] [] _
                refine XS.iconst X0.here hx rfl (hb hby d1_47) ?_
                show SS p e below m s₁ 48 #[iv p1, .unset] [(.int (0 : Int32))] _
                refine XS.istoreN X0.here hx rfl (hb hby d1_48) rfl (l' := #[iv p1, iv (0 : Int32)]) rfl ?_
                show SS p e below m s₁ 49 #[iv p1, iv (0 : Int32)] [] _
                refine XS.goto X0.here hx rfl (pc0 := 49) (pc' := 232) rfl (hb hby d1_49) (by decide) (by decide) ?_
                show SS p e below m s₁ 232 #[iv p1, iv (0 : Int32)] [] _
                refine XS.iloadN X0.here hx rfl (hb hby d1_232) rfl ?_
                show SS p e below m s₁ 233 #[iv p1, iv (0 : Int32)] [(.int (0 : Int32))] _
                exact kk)
              obtain ⟨fs, hr, hrun, hended, hW, hsame⟩ := X0.leave (v := some (.int (0 : Int32))) (fun h => by rw [Bd.returns] at h; cases h)
              refine ⟨_, _, hB _ (pre34 _ ?_), hrun, hended, _, _, rfl, ?_, ⟨_, rfl⟩, hW, hsame.mono (by decide) (by decide)⟩
              · exact retN X0 hx (t := .boolean) Bd.returns (by simp) (hb hby d1_233) hr
              · exact ⟨by show _ = some (Value.int (f1 p1)); rw [f1, if_pos hc2, if_neg hc4, if_pos hc25, if_pos hc27, if_neg hc29, if_neg hc32], N0, e0⟩
        · have pre35 : ∀ t, SS p e below m s₁ 28 #[iv p1, .unset] [(.int (90 : Int32)), (.int p1)] t → B t := fun t kk => pre26 t (by
            refine XS.icmpNo X0.here hx rfl (hb hby d1_22) rfl (flt hc27).1 ?_
            show SS p e below m s₁ 25 #[iv p1, .unset] [] _
            refine XS.iloadN X0.here hx rfl (hb hby d1_25) rfl ?_
            show SS p e below m s₁ 26 #[iv p1, .unset] [(.int p1)] _
            refine XS.bipush X0.here hx rfl (hb hby d1_26) ?_
            show SS p e below m s₁ 28 #[iv p1, .unset] [(.int (90 : Int32)), (.int p1)] _
            exact kk)
          by_cases hc36 : (90 : Int32) < p1
          · have pre37 : ∀ t, SS p e below m s₁ 34 #[iv p1, .unset] [(.int (95 : Int32)), (.int p1)] t → B t := fun t kk => pre35 t (by
              refine XS.icmpNo X0.here hx rfl (hb hby d1_28) rfl (tlt hc36).2.2.2 ?_
              show SS p e below m s₁ 31 #[iv p1, .unset] [] _
              refine XS.iloadN X0.here hx rfl (hb hby d1_31) rfl ?_
              show SS p e below m s₁ 32 #[iv p1, .unset] [(.int p1)] _
              refine XS.bipush X0.here hx rfl (hb hby d1_32) ?_
              show SS p e below m s₁ 34 #[iv p1, .unset] [(.int (95 : Int32)), (.int p1)] _
              exact kk)
            by_cases hc38 : p1 = (95 : Int32)
            · have pre39 : ∀ t, SS p e below m s₁ 233 #[iv p1, iv (1 : Int32)] [(.int (1 : Int32))] t → B t := fun t kk => pre37 t (by
                refine XS.icmpYes X0.here hx rfl (pc0 := 34) (pc' := 43) rfl (hb hby d1_34) rfl (teq hc38).1 (by decide) (by decide) ?_
                show SS p e below m s₁ 43 #[iv p1, .unset] [] _
                refine XS.iconst X0.here hx rfl (hb hby d1_43) ?_
                show SS p e below m s₁ 44 #[iv p1, .unset] [(.int (1 : Int32))] _
                refine XS.goto X0.here hx rfl (pc0 := 44) (pc' := 48) rfl (hb hby d1_44) (by decide) (by decide) ?_
                show SS p e below m s₁ 48 #[iv p1, .unset] [(.int (1 : Int32))] _
                refine XS.istoreN X0.here hx rfl (hb hby d1_48) rfl (l' := #[iv p1, iv (1 : Int32)]) rfl ?_
                show SS p e below m s₁ 49 #[iv p1, iv (1 : Int32)] [] _
                refine XS.goto X0.here hx rfl (pc0 := 49) (pc' := 232) rfl (hb hby d1_49) (by decide) (by decide) ?_
                show SS p e below m s₁ 232 #[iv p1, iv (1 : Int32)] [] _
                refine XS.iloadN X0.here hx rfl (hb hby d1_232) rfl ?_
                show SS p e below m s₁ 233 #[iv p1, iv (1 : Int32)] [(.int (1 : Int32))] _
                exact kk)
              obtain ⟨fs, hr, hrun, hended, hW, hsame⟩ := X0.leave (v := some (.int (1 : Int32))) (fun h => by rw [Bd.returns] at h; cases h)
              refine ⟨_, _, hB _ (pre39 _ ?_), hrun, hended, _, _, rfl, ?_, ⟨_, rfl⟩, hW, hsame.mono (by decide) (by decide)⟩
              · exact retN X0 hx (t := .boolean) Bd.returns (by simp) (hb hby d1_233) hr
              · exact ⟨by show _ = some (Value.int (f1 p1)); rw [f1, if_pos hc2, if_neg hc4, if_pos hc25, if_neg hc27, if_pos hc36, if_pos hc38], N0, e0⟩
            · have pre40 : ∀ t, SS p e below m s₁ 40 #[iv p1, .unset] [(.int (58 : Int32)), (.int p1)] t → B t := fun t kk => pre37 t (by
                refine XS.icmpNo X0.here hx rfl (hb hby d1_34) rfl (feq hc38).1 ?_
                show SS p e below m s₁ 37 #[iv p1, .unset] [] _
                refine XS.iloadN X0.here hx rfl (hb hby d1_37) rfl ?_
                show SS p e below m s₁ 38 #[iv p1, .unset] [(.int p1)] _
                refine XS.bipush X0.here hx rfl (hb hby d1_38) ?_
                show SS p e below m s₁ 40 #[iv p1, .unset] [(.int (58 : Int32)), (.int p1)] _
                exact kk)
              by_cases hc41 : p1 = (58 : Int32)
              · have pre42 : ∀ t, SS p e below m s₁ 233 #[iv p1, iv (1 : Int32)] [(.int (1 : Int32))] t → B t := fun t kk => pre40 t (by
                  refine XS.icmpNo X0.here hx rfl (hb hby d1_40) rfl (teq hc41).2 ?_
                  show SS p e below m s₁ 43 #[iv p1, .unset] [] _
                  refine XS.iconst X0.here hx rfl (hb hby d1_43) ?_
                  show SS p e below m s₁ 44 #[iv p1, .unset] [(.int (1 : Int32))] _
                  refine XS.goto X0.here hx rfl (pc0 := 44) (pc' := 48) rfl (hb hby d1_44) (by decide) (by decide) ?_
                  show SS p e below m s₁ 48 #[iv p1, .unset] [(.int (1 : Int32))] _
                  refine XS.istoreN X0.here hx rfl (hb hby d1_48) rfl (l' := #[iv p1, iv (1 : Int32)]) rfl ?_
                  show SS p e below m s₁ 49 #[iv p1, iv (1 : Int32)] [] _
                  refine XS.goto X0.here hx rfl (pc0 := 49) (pc' := 232) rfl (hb hby d1_49) (by decide) (by decide) ?_
                  show SS p e below m s₁ 232 #[iv p1, iv (1 : Int32)] [] _
                  refine XS.iloadN X0.here hx rfl (hb hby d1_232) rfl ?_
                  show SS p e below m s₁ 233 #[iv p1, iv (1 : Int32)] [(.int (1 : Int32))] _
                  exact kk)
                obtain ⟨fs, hr, hrun, hended, hW, hsame⟩ := X0.leave (v := some (.int (1 : Int32))) (fun h => by rw [Bd.returns] at h; cases h)
                refine ⟨_, _, hB _ (pre42 _ ?_), hrun, hended, _, _, rfl, ?_, ⟨_, rfl⟩, hW, hsame.mono (by decide) (by decide)⟩
                · exact retN X0 hx (t := .boolean) Bd.returns (by simp) (hb hby d1_233) hr
                · exact ⟨by show _ = some (Value.int (f1 p1)); rw [f1, if_pos hc2, if_neg hc4, if_pos hc25, if_neg hc27, if_pos hc36, if_neg hc38, if_pos hc41], N0, e0⟩
              · have pre43 : ∀ t, SS p e below m s₁ 233 #[iv p1, iv (0 : Int32)] [(.int (0 : Int32))] t → B t := fun t kk => pre40 t (by
                  refine XS.icmpYes X0.here hx rfl (pc0 := 40) (pc' := 47) rfl (hb hby d1_40) rfl (feq hc41).2 (by decide) (by decide) ?_
                  show SS p e below m s₁ 47 #[iv p1, .unset] [] _
                  refine XS.iconst X0.here hx rfl (hb hby d1_47) ?_
                  show SS p e below m s₁ 48 #[iv p1, .unset] [(.int (0 : Int32))] _
                  refine XS.istoreN X0.here hx rfl (hb hby d1_48) rfl (l' := #[iv p1, iv (0 : Int32)]) rfl ?_
                  show SS p e below m s₁ 49 #[iv p1, iv (0 : Int32)] [] _
                  refine XS.goto X0.here hx rfl (pc0 := 49) (pc' := 232) rfl (hb hby d1_49) (by decide) (by decide) ?_
                  show SS p e below m s₁ 232 #[iv p1, iv (0 : Int32)] [] _
                  refine XS.iloadN X0.here hx rfl (hb hby d1_232) rfl ?_
                  show SS p e below m s₁ 233 #[iv p1, iv (0 : Int32)] [(.int (0 : Int32))] _
                  exact kk)
                obtain ⟨fs, hr, hrun, hended, hW, hsame⟩ := X0.leave (v := some (.int (0 : Int32))) (fun h => by rw [Bd.returns] at h; cases h)
                refine ⟨_, _, hB _ (pre43 _ ?_), hrun, hended, _, _, rfl, ?_, ⟨_, rfl⟩, hW, hsame.mono (by decide) (by decide)⟩
                · exact retN X0 hx (t := .boolean) Bd.returns (by simp) (hb hby d1_233) hr
                · exact ⟨by show _ = some (Value.int (f1 p1)); rw [f1, if_pos hc2, if_neg hc4, if_pos hc25, if_neg hc27, if_pos hc36, if_neg hc38, if_neg hc41], N0, e0⟩
          · have pre44 : ∀ t, SS p e below m s₁ 233 #[iv p1, iv (1 : Int32)] [(.int (1 : Int32))] t → B t := fun t kk => pre35 t (by
              refine XS.icmpYes X0.here hx rfl (pc0 := 28) (pc' := 43) rfl (hb hby d1_28) rfl (flt hc36).2.2.2 (by decide) (by decide) ?_
              show SS p e below m s₁ 43 #[iv p1, .unset] [] _
              refine XS.iconst X0.here hx rfl (hb hby d1_43) ?_
              show SS p e below m s₁ 44 #[iv p1, .unset] [(.int (1 : Int32))] _
              refine XS.goto X0.here hx rfl (pc0 := 44) (pc' := 48) rfl (hb hby d1_44) (by decide) (by decide) ?_
              show SS p e below m s₁ 48 #[iv p1, .unset] [(.int (1 : Int32))] _
              refine XS.istoreN X0.here hx rfl (hb hby d1_48) rfl (l' := #[iv p1, iv (1 : Int32)]) rfl ?_
              show SS p e below m s₁ 49 #[iv p1, iv (1 : Int32)] [] _
              refine XS.goto X0.here hx rfl (pc0 := 49) (pc' := 232) rfl (hb hby d1_49) (by decide) (by decide) ?_
              show SS p e below m s₁ 232 #[iv p1, iv (1 : Int32)] [] _
              refine XS.iloadN X0.here hx rfl (hb hby d1_232) rfl ?_
              show SS p e below m s₁ 233 #[iv p1, iv (1 : Int32)] [(.int (1 : Int32))] _
              exact kk)
            obtain ⟨fs, hr, hrun, hended, hW, hsame⟩ := X0.leave (v := some (.int (1 : Int32))) (fun h => by rw [Bd.returns] at h; cases h)
            refine ⟨_, _, hB _ (pre44 _ ?_), hrun, hended, _, _, rfl, ?_, ⟨_, rfl⟩, hW, hsame.mono (by decide) (by decide)⟩
            · exact retN X0 hx (t := .boolean) Bd.returns (by simp) (hb hby d1_233) hr
            · exact ⟨by show _ = some (Value.int (f1 p1)); rw [f1, if_pos hc2, if_neg hc4, if_pos hc25, if_neg hc27, if_neg hc36], N0, e0⟩
      · have pre45 : ∀ t, SS p e below m s₁ 233 #[iv p1, iv (1 : Int32)] [(.int (1 : Int32))] t → B t := fun t kk => pre24 t (by
          refine XS.icmpYes X0.here hx rfl (pc0 := 16) (pc' := 43) rfl (hb hby d1_16) rfl (flt hc25).2.2.2 (by decide) (by decide) ?_
          show SS p e below m s₁ 43 #[iv p1, .unset] [] _
          refine XS.iconst X0.here hx rfl (hb hby d1_43) ?_
          show SS p e below m s₁ 44 #[iv p1, .unset] [(.int (1 : Int32))] _
          refine XS.goto X0.here hx rfl (pc0 := 44) (pc' := 48) rfl (hb hby d1_44) (by decide) (by decide) ?_
          show SS p e below m s₁ 48 #[iv p1, .unset] [(.int (1 : Int32))] _
          refine XS.istoreN X0.here hx rfl (hb hby d1_48) rfl (l' := #[iv p1, iv (1 : Int32)]) rfl ?_
          show SS p e below m s₁ 49 #[iv p1, iv (1 : Int32)] [] _
          refine XS.goto X0.here hx rfl (pc0 := 49) (pc' := 232) rfl (hb hby d1_49) (by decide) (by decide) ?_
          show SS p e below m s₁ 232 #[iv p1, iv (1 : Int32)] [] _
          refine XS.iloadN X0.here hx rfl (hb hby d1_232) rfl ?_
          show SS p e below m s₁ 233 #[iv p1, iv (1 : Int32)] [(.int (1 : Int32))] _
          exact kk)
        obtain ⟨fs, hr, hrun, hended, hW, hsame⟩ := X0.leave (v := some (.int (1 : Int32))) (fun h => by rw [Bd.returns] at h; cases h)
        refine ⟨_, _, hB _ (pre45 _ ?_), hrun, hended, _, _, rfl, ?_, ⟨_, rfl⟩, hW, hsame.mono (by decide) (by decide)⟩
        · exact retN X0 hx (t := .boolean) Bd.returns (by simp) (hb hby d1_233) hr
        · exact ⟨by show _ = some (Value.int (f1 p1)); rw [f1, if_pos hc2, if_neg hc4, if_neg hc25], N0, e0⟩
  · have pre46 : ∀ t, SS p e below m s₁ 56 #[iv p1, .unset] [(.int (768 : Int32)), (.int p1)] t → B t := fun t kk => pre1 t (by
      refine XS.icmpYes X0.here hx rfl (pc0 := 4) (pc' := 52) rfl (hb hby d1_4) rfl (flt hc2).2.1 (by decide) (by decide) ?_
      show SS p e below m s₁ 52 #[iv p1, .unset] [] _
      refine XS.iloadN X0.here hx rfl (hb hby d1_52) rfl ?_
      show SS p e below m s₁ 53 #[iv p1, .unset] [(.int p1)] _
      refine XS.sipush X0.here hx rfl (hb hby d1_53) ?_
      show SS p e below m s₁ 56 #[iv p1, .unset] [(.int (768 : Int32)), (.int p1)] _
      exact kk)
    by_cases hc47 : p1 < (768 : Int32)
    · have pre48 : ∀ t, SS p e below m s₁ 63 #[iv p1, .unset] [(.int (192 : Int32)), (.int p1)] t → B t := fun t kk => pre46 t (by
        refine XS.icmpNo X0.here hx rfl (hb hby d1_56) rfl (tlt hc47).2.1 ?_
        show SS p e below m s₁ 59 #[iv p1, .unset] [] _
        refine XS.iloadN X0.here hx rfl (hb hby d1_59) rfl ?_
        show SS p e below m s₁ 60 #[iv p1, .unset] [(.int p1)] _
        refine XS.sipush X0.here hx rfl (hb hby d1_60) ?_
        show SS p e below m s₁ 63 #[iv p1, .unset] [(.int (192 : Int32)), (.int p1)] _
        exact kk)
      by_cases hc49 : p1 < (192 : Int32)
      · have pre50 : ∀ t, SS p e below m s₁ 233 #[iv p1, iv (0 : Int32)] [(.int (0 : Int32))] t → B t := fun t kk => pre48 t (by
          refine XS.icmpYes X0.here hx rfl (pc0 := 63) (pc' := 84) rfl (hb hby d1_63) rfl (tlt hc49).1 (by decide) (by decide) ?_
          show SS p e below m s₁ 84 #[iv p1, .unset] [] _
          refine XS.iconst X0.here hx rfl (hb hby d1_84) ?_
          show SS p e below m s₁ 85 #[iv p1, .unset] [(.int (0 : Int32))] _
          refine XS.istoreN X0.here hx rfl (hb hby d1_85) rfl (l' := #[iv p1, iv (0 : Int32)]) rfl ?_
          show SS p e below m s₁ 86 #[iv p1, iv (0 : Int32)] [] _
          refine XS.goto X0.here hx rfl (pc0 := 86) (pc' := 232) rfl (hb hby d1_86) (by decide) (by decide) ?_
          show SS p e below m s₁ 232 #[iv p1, iv (0 : Int32)] [] _
          refine XS.iloadN X0.here hx rfl (hb hby d1_232) rfl ?_
          show SS p e below m s₁ 233 #[iv p1, iv (0 : Int32)] [(.int (0 : Int32))] _
          exact kk)
        obtain ⟨fs, hr, hrun, hended, hW, hsame⟩ := X0.leave (v := some (.int (0 : Int32))) (fun h => by rw [Bd.returns] at h; cases h)
        refine ⟨_, _, hB _ (pre50 _ ?_), hrun, hended, _, _, rfl, ?_, ⟨_, rfl⟩, hW, hsame.mono (by decide) (by decide)⟩
        · exact retN X0 hx (t := .boolean) Bd.returns (by simp) (hb hby d1_233) hr
        · exact ⟨by show _ = some (Value.int (f1 p1)); rw [f1, if_neg hc2, if_pos hc47, if_pos hc49], N0, e0⟩
      · have pre51 : ∀ t, SS p e below m s₁ 70 #[iv p1, .unset] [(.int (215 : Int32)), (.int p1)] t → B t := fun t kk => pre48 t (by
          refine XS.icmpNo X0.here hx rfl (hb hby d1_63) rfl (flt hc49).1 ?_
          show SS p e below m s₁ 66 #[iv p1, .unset] [] _
          refine XS.iloadN X0.here hx rfl (hb hby d1_66) rfl ?_
          show SS p e below m s₁ 67 #[iv p1, .unset] [(.int p1)] _
          refine XS.sipush X0.here hx rfl (hb hby d1_67) ?_
          show SS p e below m s₁ 70 #[iv p1, .unset] [(.int (215 : Int32)), (.int p1)] _
          exact kk)
        by_cases hc52 : p1 = (215 : Int32)
        · have pre53 : ∀ t, SS p e below m s₁ 233 #[iv p1, iv (0 : Int32)] [(.int (0 : Int32))] t → B t := fun t kk => pre51 t (by
            refine XS.icmpYes X0.here hx rfl (pc0 := 70) (pc' := 84) rfl (hb hby d1_70) rfl (teq hc52).1 (by decide) (by decide) ?_
            show SS p e below m s₁ 84 #[iv p1, .unset] [] _
            refine XS.iconst X0.here hx rfl (hb hby d1_84) ?_
            show SS p e below m s₁ 85 #[iv p1, .unset] [(.int (0 : Int32))] _
            refine XS.istoreN X0.here hx rfl (hb hby d1_85) rfl (l' := #[iv p1, iv (0 : Int32)]) rfl ?_
            show SS p e below m s₁ 86 #[iv p1, iv (0 : Int32)] [] _
            refine XS.goto X0.here hx rfl (pc0 := 86) (pc' := 232) rfl (hb hby d1_86) (by decide) (by decide) ?_
            show SS p e below m s₁ 232 #[iv p1, iv (0 : Int32)] [] _
            refine XS.iloadN X0.here hx rfl (hb hby d1_232) rfl ?_
            show SS p e below m s₁ 233 #[iv p1, iv (0 : Int32)] [(.int (0 : Int32))] _
            exact kk)
          obtain ⟨fs, hr, hrun, hended, hW, hsame⟩ := X0.leave (v := some (.int (0 : Int32))) (fun h => by rw [Bd.returns] at h; cases h)
          refine ⟨_, _, hB _ (pre53 _ ?_), hrun, hended, _, _, rfl, ?_, ⟨_, rfl⟩, hW, hsame.mono (by decide) (by decide)⟩
          · exact retN X0 hx (t := .boolean) Bd.returns (by simp) (hb hby d1_233) hr
          · exact ⟨by show _ = some (Value.int (f1 p1)); rw [f1, if_neg hc2, if_pos hc47, if_neg hc49, if_pos hc52], N0, e0⟩
        · have pre54 : ∀ t, SS p e below m s₁ 77 #[iv p1, .unset] [(.int (247 : Int32)), (.int p1)] t → B t := fun t kk => pre51 t (by
            refine XS.icmpNo X0.here hx rfl (hb hby d1_70) rfl (feq hc52).1 ?_
            show SS p e below m s₁ 73 #[iv p1, .unset] [] _
            refine XS.iloadN X0.here hx rfl (hb hby d1_73) rfl ?_
            show SS p e below m s₁ 74 #[iv p1, .unset] [(.int p1)] _
            refine XS.sipush X0.here hx rfl (hb hby d1_74) ?_
            show SS p e below m s₁ 77 #[iv p1, .unset] [(.int (247 : Int32)), (.int p1)] _
            exact kk)
          by_cases hc55 : p1 = (247 : Int32)
          · have pre56 : ∀ t, SS p e below m s₁ 233 #[iv p1, iv (0 : Int32)] [(.int (0 : Int32))] t → B t := fun t kk => pre54 t (by
              refine XS.icmpYes X0.here hx rfl (pc0 := 77) (pc' := 84) rfl (hb hby d1_77) rfl (teq hc55).1 (by decide) (by decide) ?_
              show SS p e below m s₁ 84 #[iv p1, .unset] [] _
              refine XS.iconst X0.here hx rfl (hb hby d1_84) ?_
              show SS p e below m s₁ 85 #[iv p1, .unset] [(.int (0 : Int32))] _
              refine XS.istoreN X0.here hx rfl (hb hby d1_85) rfl (l' := #[iv p1, iv (0 : Int32)]) rfl ?_
              show SS p e below m s₁ 86 #[iv p1, iv (0 : Int32)] [] _
              refine XS.goto X0.here hx rfl (pc0 := 86) (pc' := 232) rfl (hb hby d1_86) (by decide) (by decide) ?_
              show SS p e below m s₁ 232 #[iv p1, iv (0 : Int32)] [] _
              refine XS.iloadN X0.here hx rfl (hb hby d1_232) rfl ?_
              show SS p e below m s₁ 233 #[iv p1, iv (0 : Int32)] [(.int (0 : Int32))] _
              exact kk)
            obtain ⟨fs, hr, hrun, hended, hW, hsame⟩ := X0.leave (v := some (.int (0 : Int32))) (fun h => by rw [Bd.returns] at h; cases h)
            refine ⟨_, _, hB _ (pre56 _ ?_), hrun, hended, _, _, rfl, ?_, ⟨_, rfl⟩, hW, hsame.mono (by decide) (by decide)⟩
            · exact retN X0 hx (t := .boolean) Bd.returns (by simp) (hb hby d1_233) hr
            · exact ⟨by show _ = some (Value.int (f1 p1)); rw [f1, if_neg hc2, if_pos hc47, if_neg hc49, if_neg hc52, if_pos hc55], N0, e0⟩
          · have pre57 : ∀ t, SS p e below m s₁ 233 #[iv p1, iv (1 : Int32)] [(.int (1 : Int32))] t → B t := fun t kk => pre54 t (by
              refine XS.icmpNo X0.here hx rfl (hb hby d1_77) rfl (feq hc55).1 ?_
              show SS p e below m s₁ 80 #[iv p1, .unset] [] _
              refine XS.iconst X0.here hx rfl (hb hby d1_80) ?_
              show SS p e below m s₁ 81 #[iv p1, .unset] [(.int (1 : Int32))] _
              refine XS.goto X0.here hx rfl (pc0 := 81) (pc' := 85) rfl (hb hby d1_81) (by decide) (by decide) ?_
              show SS p e below m s₁ 85 #[iv p1, .unset] [(.int (1 : Int32))] _
              refine XS.istoreN X0.here hx rfl (hb hby d1_85) rfl (l' := #[iv p1, iv (1 : Int32)]) rfl ?_
              show SS p e below m s₁ 86 #[iv p1, iv (1 : Int32)] [] _
              refine XS.goto X0.here hx rfl (pc0 := 86) (pc' := 232) rfl (hb hby d1_86) (by decide) (by decide) ?_
              show SS p e below m s₁ 232 #[iv p1, iv (1 : Int32)] [] _
              refine XS.iloadN X0.here hx rfl (hb hby d1_232) rfl ?_
              show SS p e below m s₁ 233 #[iv p1, iv (1 : Int32)] [(.int (1 : Int32))] _
              exact kk)
            obtain ⟨fs, hr, hrun, hended, hW, hsame⟩ := X0.leave (v := some (.int (1 : Int32))) (fun h => by rw [Bd.returns] at h; cases h)
            refine ⟨_, _, hB _ (pre57 _ ?_), hrun, hended, _, _, rfl, ?_, ⟨_, rfl⟩, hW, hsame.mono (by decide) (by decide)⟩
            · exact retN X0 hx (t := .boolean) Bd.returns (by simp) (hb hby d1_233) hr
            · exact ⟨by show _ = some (Value.int (f1 p1)); rw [f1, if_neg hc2, if_pos hc47, if_neg hc49, if_neg hc52, if_neg hc55], N0, e0⟩
    · have pre58 : ∀ t, SS p e below m s₁ 93 #[iv p1, .unset] [(.int (8192 : Int32)), (.int p1)] t → B t := fun t kk => pre46 t (by
        refine XS.icmpYes X0.here hx rfl (pc0 := 56) (pc' := 89) rfl (hb hby d1_56) rfl (flt hc47).2.1 (by decide) (by decide) ?_
        show SS p e below m s₁ 89 #[iv p1, .unset] [] _
        refine XS.iloadN X0.here hx rfl (hb hby d1_89) rfl ?_
        show SS p e below m s₁ 90 #[iv p1, .unset] [(.int p1)] _
        refine XS.sipush X0.here hx rfl (hb hby d1_90) ?_
        show SS p e below m s₁ 93 #[iv p1, .unset] [(.int (8192 : Int32)), (.int p1)] _
        exact kk)
      by_cases hc59 : p1 < (8192 : Int32)
      · have pre60 : ∀ t, SS p e below m s₁ 100 #[iv p1, .unset] [(.int (880 : Int32)), (.int p1)] t → B t := fun t kk => pre58 t (by
          refine XS.icmpNo X0.here hx rfl (hb hby d1_93) rfl (tlt hc59).2.1 ?_
          show SS p e below m s₁ 96 #[iv p1, .unset] [] _
          refine XS.iloadN X0.here hx rfl (hb hby d1_96) rfl ?_
          show SS p e below m s₁ 97 #[iv p1, .unset] [(.int p1)] _
          refine XS.sipush X0.here hx rfl (hb hby d1_97) ?_
          show SS p e below m s₁ 100 #[iv p1, .unset] [(.int (880 : Int32)), (.int p1)] _
          exact kk)
        by_cases hc61 : p1 < (880 : Int32)
        · have pre62 : ∀ t, SS p e below m s₁ 114 #[iv p1, .unset] [(.int (895 : Int32)), (.int p1)] t → B t := fun t kk => pre60 t (by
            refine XS.icmpYes X0.here hx rfl (pc0 := 100) (pc' := 110) rfl (hb hby d1_100) rfl (tlt hc61).1 (by decide) (by decide) ?_
            show SS p e below m s₁ 110 #[iv p1, .unset] [] _
            refine XS.iloadN X0.here hx rfl (hb hby d1_110) rfl ?_
            show SS p e below m s₁ 111 #[iv p1, .unset] [(.int p1)] _
            refine XS.sipush X0.here hx rfl (hb hby d1_111) ?_
            show SS p e below m s₁ 114 #[iv p1, .unset] [(.int (895 : Int32)), (.int p1)] _
            exact kk)
          by_cases hc63 : p1 < (895 : Int32)
          · have pre64 : ∀ t, SS p e below m s₁ 233 #[iv p1, iv (0 : Int32)] [(.int (0 : Int32))] t → B t := fun t kk => pre62 t (by
              refine XS.icmpYes X0.here hx rfl (pc0 := 114) (pc' := 121) rfl (hb hby d1_114) rfl (tlt hc63).1 (by decide) (by decide) ?_
              show SS p e below m s₁ 121 #[iv p1, .unset] [] _
              refine XS.iconst X0.here hx rfl (hb hby d1_121) ?_
              show SS p e below m s₁ 122 #[iv p1, .unset] [(.int (0 : Int32))] _
              refine XS.istoreN X0.here hx rfl (hb hby d1_122) rfl (l' := #[iv p1, iv (0 : Int32)]) rfl ?_
              show SS p e below m s₁ 123 #[iv p1, iv (0 : Int32)] [] _
              refine XS.goto X0.here hx rfl (pc0 := 123) (pc' := 232) rfl (hb hby d1_123) (by decide) (by decide) ?_
              show SS p e below m s₁ 232 #[iv p1, iv (0 : Int32)] [] _
              refine XS.iloadN X0.here hx rfl (hb hby d1_232) rfl ?_
              show SS p e below m s₁ 233 #[iv p1, iv (0 : Int32)] [(.int (0 : Int32))] _
              exact kk)
            obtain ⟨fs, hr, hrun, hended, hW, hsame⟩ := X0.leave (v := some (.int (0 : Int32))) (fun h => by rw [Bd.returns] at h; cases h)
            refine ⟨_, _, hB _ (pre64 _ ?_), hrun, hended, _, _, rfl, ?_, ⟨_, rfl⟩, hW, hsame.mono (by decide) (by decide)⟩
            · exact retN X0 hx (t := .boolean) Bd.returns (by simp) (hb hby d1_233) hr
            · exact ⟨by show _ = some (Value.int (f1 p1)); rw [f1, if_neg hc2, if_neg hc47, if_pos hc59, if_pos hc61, if_pos hc63], N0, e0⟩
          · have pre65 : ∀ t, SS p e below m s₁ 233 #[iv p1, iv (1 : Int32)] [(.int (1 : Int32))] t → B t := fun t kk => pre62 t (by
              refine XS.icmpNo X0.here hx rfl (hb hby d1_114) rfl (flt hc63).1 ?_
              show SS p e below m s₁ 117 #[iv p1, .unset] [] _
              refine XS.iconst X0.here hx rfl (hb hby d1_117) ?_
              show SS p e below m s₁ 118 #[iv p1, .unset] [(.int (1 : Int32))] _
              refine XS.goto X0.here hx rfl (pc0 := 118) (pc' := 122) rfl (hb hby d1_118) (by decide) (by decide) ?_
              show SS p e below m s₁ 122 #[iv p1, .unset] [(.int (1 : Int32))] _
              refine XS.istoreN X0.here hx rfl (hb hby d1_122) rfl (l' := #[iv p1, iv (1 : Int32)]) rfl ?_
              show SS p e below m s₁ 123 #[iv p1, iv (1 : Int32)] [] _
              refine XS.goto X0.here hx rfl (pc0 := 123) (pc' := 232) rfl (hb hby d1_123) (by decide) (by decide) ?_
              show SS p e below m s₁ 232 #[iv p1, iv (1 : Int32)] [] _
              refine XS.iloadN X0.here hx rfl (hb hby d1_232) rfl ?_
              show SS p e below m s₁ 233 #[iv p1, iv (1 : Int32)] [(.int (1 : Int32))] _
              exact kk)
            obtain ⟨fs, hr, hrun, hended, hW, hsame⟩ := X0.leave (v := some (.int (1 : Int32))) (fun h => by rw [Bd.returns] at h; cases h)
            refine ⟨_, _, hB _ (pre65 _ ?_), hrun, hended, _, _, rfl, ?_, ⟨_, rfl⟩, hW, hsame.mono (by decide) (by decide)⟩
            · exact retN X0 hx (t := .boolean) Bd.returns (by simp) (hb hby d1_233) hr
            · exact ⟨by show _ = some (Value.int (f1 p1)); rw [f1, if_neg hc2, if_neg hc47, if_pos hc59, if_pos hc61, if_neg hc63], N0, e0⟩
        · have pre66 : ∀ t, SS p e below m s₁ 107 #[iv p1, .unset] [(.int (893 : Int32)), (.int p1)] t → B t := fun t kk => pre60 t (by
            refine XS.icmpNo X0.here hx rfl (hb hby d1_100) rfl (flt hc61).1 ?_
            show SS p e below m s₁ 103 #[iv p1, .unset] [] _
            refine XS.iloadN X0.here hx rfl (hb hby d1_103) rfl ?_
            show SS p e below m s₁ 104 #[iv p1, .unset] [(.int p1)] _
            refine XS.sipush X0.here hx rfl (hb hby d1_104) ?_
            show SS p e below m s₁ 107 #[iv p1, .unset] [(.int (893 : Int32)), (.int p1)] _
            exact kk)
          by_cases hc67 : (893 : Int32) < p1
          · have pre68 : ∀ t, SS p e below m s₁ 114 #[iv p1, .unset] [(.int (895 : Int32)), (.int p1)] t → B t := fun t kk => pre66 t (by
              refine XS.icmpNo X0.here hx rfl (hb hby d1_107) rfl (tlt hc67).2.2.2 ?_
              show SS p e below m s₁ 110 #[iv p1, .unset] [] _
              refine XS.iloadN X0.here hx rfl (hb hby d1_110) rfl ?_
              show SS p e below m s₁ 111 #[iv p1, .unset] [(.int p1)] _
              refine XS.sipush X0.here hx rfl (hb hby d1_111) ?_
              show SS p e below m s₁ 114 #[iv p1, .unset] [(.int (895 : Int32)), (.int p1)] _
              exact kk)
            by_cases hc69 : p1 < (895 : Int32)
            · have pre70 : ∀ t, SS p e below m s₁ 233 #[iv p1, iv (0 : Int32)] [(.int (0 : Int32))] t → B t := fun t kk => pre68 t (by
                refine XS.icmpYes X0.here hx rfl (pc0 := 114) (pc' := 121) rfl (hb hby d1_114) rfl (tlt hc69).1 (by decide) (by decide) ?_
                show SS p e below m s₁ 121 #[iv p1, .unset] [] _
                refine XS.iconst X0.here hx rfl (hb hby d1_121) ?_
                show SS p e below m s₁ 122 #[iv p1, .unset] [(.int (0 : Int32))] _
                refine XS.istoreN X0.here hx rfl (hb hby d1_122) rfl (l' := #[iv p1, iv (0 : Int32)]) rfl ?_
                show SS p e below m s₁ 123 #[iv p1, iv (0 : Int32)] [] _
                refine XS.goto X0.here hx rfl (pc0 := 123) (pc' := 232) rfl (hb hby d1_123) (by decide) (by decide) ?_
                show SS p e below m s₁ 232 #[iv p1, iv (0 : Int32)] [] _
                refine XS.iloadN X0.here hx rfl (hb hby d1_232) rfl ?_
                show SS p e below m s₁ 233 #[iv p1, iv (0 : Int32)] [(.int (0 : Int32))] _
                exact kk)
              obtain ⟨fs, hr, hrun, hended, hW, hsame⟩ := X0.leave (v := some (.int (0 : Int32))) (fun h => by rw [Bd.returns] at h; cases h)
              refine ⟨_, _, hB _ (pre70 _ ?_), hrun, hended, _, _, rfl, ?_, ⟨_, rfl⟩, hW, hsame.mono (by decide) (by decide)⟩
              · exact retN X0 hx (t := .boolean) Bd.returns (by simp) (hb hby d1_233) hr
              · exact ⟨by show _ = some (Value.int (f1 p1)); rw [f1, if_neg hc2, if_neg hc47, if_pos hc59, if_neg hc61, if_pos hc67, if_pos hc69], N0, e0⟩
            · have pre71 : ∀ t, SS p e below m s₁ 233 #[iv p1, iv (1 : Int32)] [(.int (1 : Int32))] t → B t := fun t kk => pre68 t (by
                refine XS.icmpNo X0.here hx rfl (hb hby d1_114) rfl (flt hc69).1 ?_
                show SS p e below m s₁ 117 #[iv p1, .unset] [] _
                refine XS.iconst X0.here hx rfl (hb hby d1_117) ?_
                show SS p e below m s₁ 118 #[iv p1, .unset] [(.int (1 : Int32))] _
                refine XS.goto X0.here hx rfl (pc0 := 118) (pc' := 122) rfl (hb hby d1_118) (by decide) (by decide) ?_
                show SS p e below m s₁ 122 #[iv p1, .unset] [(.int (1 : Int32))] _
                refine XS.istoreN X0.here hx rfl (hb hby d1_122) rfl (l' := #[iv p1, iv (1 : Int32)]) rfl ?_
                show SS p e below m s₁ 123 #[iv p1, iv (1 : Int32)] [] _
                refine XS.goto X0.here hx rfl (pc0 := 123) (pc' := 232) rfl (hb hby d1_123) (by decide) (by decide) ?_
                show SS p e below m s₁ 232 #[iv p1, iv (1 : Int32)] [] _
                refine XS.iloadN X0.here hx rfl (hb hby d1_232) rfl ?_
                show SS p e below m s₁ 233 #[iv p1, iv (1 : Int32)] [(.int (1 : Int32))] _
                exact kk)
              obtain ⟨fs, hr, hrun, hended, hW, hsame⟩ := X0.leave (v := some (.int (1 : Int32))) (fun h => by rw [Bd.returns] at h; cases h)
              refine ⟨_, _, hB _ (pre71 _ ?_), hrun, hended, _, _, rfl, ?_, ⟨_, rfl⟩, hW, hsame.mono (by decide) (by decide)⟩
              · exact retN X0 hx (t := .boolean) Bd.returns (by simp) (hb hby d1_233) hr
              · exact ⟨by show _ = some (Value.int (f1 p1)); rw [f1, if_neg hc2, if_neg hc47, if_pos hc59, if_neg hc61, if_pos hc67, if_neg hc69], N0, e0⟩
          · have pre72 : ∀ t, SS p e below m s₁ 233 #[iv p1, iv (1 : Int32)] [(.int (1 : Int32))] t → B t := fun t kk => pre66 t (by
              refine XS.icmpYes X0.here hx rfl (pc0 := 107) (pc' := 117) rfl (hb hby d1_107) rfl (flt hc67).2.2.2 (by decide) (by decide) ?_
              show SS p e below m s₁ 117 #[iv p1, .unset] [] _
              refine XS.iconst X0.here hx rfl (hb hby d1_117) ?_
              show SS p e below m s₁ 118 #[iv p1, .unset] [(.int (1 : Int32))] _
              refine XS.goto X0.here hx rfl (pc0 := 118) (pc' := 122) rfl (hb hby d1_118) (by decide) (by decide) ?_
              show SS p e below m s₁ 122 #[iv p1, .unset] [(.int (1 : Int32))] _
              refine XS.istoreN X0.here hx rfl (hb hby d1_122) rfl (l' := #[iv p1, iv (1 : Int32)]) rfl ?_
              show SS p e below m s₁ 123 #[iv p1, iv (1 : Int32)] [] _
              refine XS.goto X0.here hx rfl (pc0 := 123) (pc' := 232) rfl (hb hby d1_123) (by decide) (by decide) ?_
              show SS p e below m s₁ 232 #[iv p1, iv (1 : Int32)] [] _
              refine XS.iloadN X0.here hx rfl (hb hby d1_232) rfl ?_
              show SS p e below m s₁ 233 #[iv p1, iv (1 : Int32)] [(.int (1 : Int32))] _
              exact kk)
            obtain ⟨fs, hr, hrun, hended, hW, hsame⟩ := X0.leave (v := some (.int (1 : Int32))) (fun h => by rw [Bd.returns] at h; cases h)
            refine ⟨_, _, hB _ (pre72 _ ?_), hrun, hended, _, _, rfl, ?_, ⟨_, rfl⟩, hW, hsame.mono (by decide) (by decide)⟩
            · exact retN X0 hx (t := .boolean) Bd.returns (by simp) (hb hby d1_233) hr
            · exact ⟨by show _ = some (Value.int (f1 p1)); rw [f1, if_neg hc2, if_neg hc47, if_pos hc59, if_neg hc61, if_neg hc67], N0, e0⟩
      · have pre73 : ∀ t, SS p e below m s₁ 130 #[iv p1, .unset] [(.int (12289 : Int32)), (.int p1)] t → B t := fun t kk => pre58 t (by
          refine XS.icmpYes X0.here hx rfl (pc0 := 93) (pc' := 126) rfl (hb hby d1_93) rfl (flt hc59).2.1 (by decide) (by decide) ?_
          show SS p e below m s₁ 126 #[iv p1, .unset] [] _
          refine XS.iloadN X0.here hx rfl (hb hby d1_126) rfl ?_
          show SS p e below m s₁ 127 #[iv p1, .unset] [(.int p1)] _
          refine XS.sipush X0.here hx rfl (hb hby d1_127) ?_
          show SS p e below m s₁ 130 #[iv p1, .unset] [(.int (12289 : Int32)), (.int p1)] _
          exact kk)
        by_cases hc74 : p1 < (12289 : Int32)
        · have pre75 : ∀ t, SS p e below m s₁ 137 #[iv p1, .unset] [(.int (8204 : Int32)), (.int p1)] t → B t := fun t kk => pre73 t (by
            refine XS.icmpNo X0.here hx rfl (hb hby d1_130) rfl (tlt hc74).2.1 ?_
            show SS p e below m s₁ 133 #[iv p1, .unset] [] _
            refine XS.iloadN X0.here hx rfl (hb hby d1_133) rfl ?_
            show SS p e below m s₁ 134 #[iv p1, .unset] [(.int p1)] _
            refine XS.sipush X0.here hx rfl (hb hby d1_134) ?_
            show SS p e below m s₁ 137 #[iv p1, .unset] [(.int (8204 : Int32)), (.int p1)] _
            exact kk)
          by_cases hc76 : p1 = (8204 : Int32)
          · have pre77 : ∀ t, SS p e below m s₁ 233 #[iv p1, iv (1 : Int32)] [(.int (1 : Int32))] t → B t := fun t kk => pre75 t (by
              refine XS.icmpYes X0.here hx rfl (pc0 := 137) (pc' := 175) rfl (hb hby d1_137) rfl (teq hc76).1 (by decide) (by decide) ?_
              show SS p e below m s₁ 175 #[iv p1, .unset] [] _
              refine XS.iconst X0.here hx rfl (hb hby d1_175) ?_
              show SS p e below m s₁ 176 #[iv p1, .unset] [(.int (1 : Int32))] _
              refine XS.goto X0.here hx rfl (pc0 := 176) (pc' := 180) rfl (hb hby d1_176) (by decide) (by decide) ?_
              show SS p e below m s₁ 180 #[iv p1, .unset] [(.int (1 : Int32))] _
              refine XS.istoreN X0.here hx rfl (hb hby d1_180) rfl (l' := #[iv p1, iv (1 : Int32)]) rfl ?_
              show SS p e below m s₁ 181 #[iv p1, iv (1 : Int32)] [] _
              refine XS.goto X0.here hx rfl (pc0 := 181) (pc' := 232) rfl (hb hby d1_181) (by decide) (by decide) ?_
              show SS p e below m s₁ 232 #[iv p1, iv (1 : Int32)] [] _
              refine XS.iloadN X0.here hx rfl (hb hby d1_232) rfl ?_
              show SS p e below m s₁ 233 #[iv p1, iv (1 : Int32)] [(.int (1 : Int32))] _
              exact kk)
            obtain ⟨fs, hr, hrun, hended, hW, hsame⟩ := X0.leave (v := some (.int (1 : Int32))) (fun h => by rw [Bd.returns] at h; cases h)
            refine ⟨_, _, hB _ (pre77 _ ?_), hrun, hended, _, _, rfl, ?_, ⟨_, rfl⟩, hW, hsame.mono (by decide) (by decide)⟩
            · exact retN X0 hx (t := .boolean) Bd.returns (by simp) (hb hby d1_233) hr
            · exact ⟨by show _ = some (Value.int (f1 p1)); rw [f1, if_neg hc2, if_neg hc47, if_neg hc59, if_pos hc74, if_pos hc76], N0, e0⟩
          · have pre78 : ∀ t, SS p e below m s₁ 144 #[iv p1, .unset] [(.int (8205 : Int32)), (.int p1)] t → B t := fun t kk => pre75 t (by
              refine XS.icmpNo X0.here hx rfl (hb hby d1_137) rfl (feq hc76).1 ?_
              show SS p e below m s₁ 140 #[iv p1, .unset] [] _
              refine XS.iloadN X0.here hx rfl (hb hby d1_140) rfl ?_
              show SS p e below m s₁ 141 #[iv p1, .unset] [(.int p1)] _
              refine XS.sipush X0.here hx rfl (hb hby d1_141) ?_
              show SS p e below m s₁ 144 #[iv p1, .unset] [(.int (8205 : Int32)), (.int p1)] _
              exact kk)
            by_cases hc79 : p1 = (8205 : Int32)
            · have pre80 : ∀ t, SS p e below m s₁ 233 #[iv p1, iv (1 : Int32)] [(.int (1 : Int32))] t → B t := fun t kk => pre78 t (by
                refine XS.icmpYes X0.here hx rfl (pc0 := 144) (pc' := 175) rfl (hb hby d1_144) rfl (teq hc79).1 (by decide) (by decide) ?_
                show SS p e below m s₁ 175 #[iv p1, .unset] [] _
                refine XS.iconst X0.here hx rfl (hb hby d1_175) ?_
                show SS p e below m s₁ 176 #[iv p1, .unset] [(.int (1 : Int32))] _
                refine XS.goto X0.here hx rfl (pc0 := 176) (pc' := 180) rfl (hb hby d1_176) (by decide) (by decide) ?_
                show SS p e below m s₁ 180 #[iv p1, .unset] [(.int (1 : Int32))] _
                refine XS.istoreN X0.here hx rfl (hb hby d1_180) rfl (l' := #[iv p1, iv (1 : Int32)]) rfl ?_
                show SS p e below m s₁ 181 #[iv p1, iv (1 : Int32)] [] _
                refine XS.goto X0.here hx rfl (pc0 := 181) (pc' := 232) rfl (hb hby d1_181) (by decide) (by decide) ?_
                show SS p e below m s₁ 232 #[iv p1, iv (1 : Int32)] [] _
                refine XS.iloadN X0.here hx rfl (hb hby d1_232) rfl ?_
                show SS p e below m s₁ 233 #[iv p1, iv (1 : Int32)] [(.int (1 : Int32))] _
                exact kk)
              obtain ⟨fs, hr, hrun, hended, hW, hsame⟩ := X0.leave (v := some (.int (1 : Int32))) (fun h => by rw [Bd.returns] at h; cases h)
              refine ⟨_, _, hB _ (pre80 _ ?_), hrun, hended, _, _, rfl, ?_, ⟨_, rfl⟩, hW, hsame.mono (by decide) (by decide)⟩
              · exact retN X0 hx (t := .boolean) Bd.returns (by simp) (hb hby d1_233) hr
              · exact ⟨by show _ = some (Value.int (f1 p1)); rw [f1, if_neg hc2, if_neg hc47, if_neg hc59, if_pos hc74, if_neg hc76, if_pos hc79], N0, e0⟩
            · have pre81 : ∀ t, SS p e below m s₁ 151 #[iv p1, .unset] [(.int (8304 : Int32)), (.int p1)] t → B t := fun t kk => pre78 t (by
                refine XS.icmpNo X0.here hx rfl (hb hby d1_144) rfl (feq hc79).1 ?_
                show SS p e below m s₁ 147 #[iv p1, .unset] [] _
                refine XS.iloadN X0.here hx rfl (hb hby d1_147) rfl ?_
                show SS p e below m s₁ 148 #[iv p1, .unset] [(.int p1)] _
                refine XS.sipush X0.here hx rfl (hb hby d1_148) ?_
                show SS p e below m s₁ 151 #[iv p1, .unset] [(.int (8304 : Int32)), (.int p1)] _
                exact kk)
              by_cases hc82 : p1 < (8304 : Int32)
              · have pre83 : ∀ t, SS p e below m s₁ 165 #[iv p1, .unset] [(.int (11264 : Int32)), (.int p1)] t → B t := fun t kk => pre81 t (by
                  refine XS.icmpYes X0.here hx rfl (pc0 := 151) (pc' := 161) rfl (hb hby d1_151) rfl (tlt hc82).1 (by decide) (by decide) ?_
                  show SS p e below m s₁ 161 #[iv p1, .unset] [] _
                  refine XS.iloadN X0.here hx rfl (hb hby d1_161) rfl ?_
                  show SS p e below m s₁ 162 #[iv p1, .unset] [(.int p1)] _
                  refine XS.sipush X0.here hx rfl (hb hby d1_162) ?_
                  show SS p e below m s₁ 165 #[iv p1, .unset] [(.int (11264 : Int32)), (.int p1)] _
                  exact kk)
                by_cases hc84 : p1 < (11264 : Int32)
                · have pre85 : ∀ t, SS p e below m s₁ 233 #[iv p1, iv (0 : Int32)] [(.int (0 : Int32))] t → B t := fun t kk => pre83 t (by
                    refine XS.icmpYes X0.here hx rfl (pc0 := 165) (pc' := 179) rfl (hb hby d1_165) rfl (tlt hc84).1 (by decide) (by decide) ?_
                    show SS p e below m s₁ 179 #[iv p1, .unset] [] _
                    refine XS.iconst X0.here hx rfl (hb hby d1_179) ?_
                    show SS p e below m s₁ 180 #[iv p1, .unset] [(.int (0 : Int32))] _
                    refine XS.istoreN X0.here hx rfl (hb hby d1_180) rfl (l' := #[iv p1, iv (0 : Int32)]) rfl ?_
                    show SS p e below m s₁ 181 #[iv p1, iv (0 : Int32)] [] _
                    refine XS.goto X0.here hx rfl (pc0 := 181) (pc' := 232) rfl (hb hby d1_181) (by decide) (by decide) ?_
                    show SS p e below m s₁ 232 #[iv p1, iv (0 : Int32)] [] _
                    refine XS.iloadN X0.here hx rfl (hb hby d1_232) rfl ?_
                    show SS p e below m s₁ 233 #[iv p1, iv (0 : Int32)] [(.int (0 : Int32))] _
                    exact kk)
                  obtain ⟨fs, hr, hrun, hended, hW, hsame⟩ := X0.leave (v := some (.int (0 : Int32))) (fun h => by rw [Bd.returns] at h; cases h)
                  refine ⟨_, _, hB _ (pre85 _ ?_), hrun, hended, _, _, rfl, ?_, ⟨_, rfl⟩, hW, hsame.mono (by decide) (by decide)⟩
                  · exact retN X0 hx (t := .boolean) Bd.returns (by simp) (hb hby d1_233) hr
                  · exact ⟨by show _ = some (Value.int (f1 p1)); rw [f1, if_neg hc2, if_neg hc47, if_neg hc59, if_pos hc74, if_neg hc76, if_neg hc79, if_pos hc82, if_pos hc84], N0, e0⟩
                · have pre86 : ∀ t, SS p e below m s₁ 172 #[iv p1, .unset] [(.int (12271 : Int32)), (.int p1)] t → B t := fun t kk => pre83 t (by
                    refine XS.icmpNo X0.here hx rfl (hb hby d1_165) rfl (flt hc84).1 ?_
                    show SS p e below m s₁ 168 #[iv p1, .unset] [] _
                    refine XS.iloadN X0.here hx rfl (hb hby d1_168) rfl ?_
                    show SS p e below m s₁ 169 #[iv p1, .unset] [(.int p1)] _
                    refine XS.sipush X0.here hx rfl (hb hby d1_169) ?_
                    show SS p e below m s₁ 172 #[iv p1, .unset] [(.int (12271 : Int32)), (.int p1)] _
                    exact kk)
                  by_cases hc87 : (12271 : Int32) < p1
                  · have pre88 : ∀ t, SS p e below m s₁ 233 #[iv p1, iv (0 : Int32)] [(.int (0 : Int32))] t → B t := fun t kk => pre86 t (by
                      refine XS.icmpYes X0.here hx rfl (pc0 := 172) (pc' := 179) rfl (hb hby d1_172) rfl (tlt hc87).2.2.1 (by decide) (by decide) ?_
                      show SS p e below m s₁ 179 #[iv p1, .unset] [] _
                      refine XS.iconst X0.here hx rfl (hb hby d1_179) ?_
                      show SS p e below m s₁ 180 #[iv p1, .unset] [(.int (0 : Int32))] _
                      refine XS.istoreN X0.here hx rfl (hb hby d1_180) rfl (l' := #[iv p1, iv (0 : Int32)]) rfl ?_
                      show SS p e below m s₁ 181 #[iv p1, iv (0 : Int32)] [] _
                      refine XS.goto X0.here hx rfl (pc0 := 181) (pc' := 232) rfl (hb hby d1_181) (by decide) (by decide) ?_
                      show SS p e below m s₁ 232 #[iv p1, iv (0 : Int32)] [] _
                      refine XS.iloadN X0.here hx rfl (hb hby d1_232) rfl ?_
                      show SS p e below m s₁ 233 #[iv p1, iv (0 : Int32)] [(.int (0 : Int32))] _
                      exact kk)
                    obtain ⟨fs, hr, hrun, hended, hW, hsame⟩ := X0.leave (v := some (.int (0 : Int32))) (fun h => by rw [Bd.returns] at h; cases h)
                    refine ⟨_, _, hB _ (pre88 _ ?_), hrun, hended, _, _, rfl, ?_, ⟨_, rfl⟩, hW, hsame.mono (by decide) (by decide)⟩
                    · exact retN X0 hx (t := .boolean) Bd.returns (by simp) (hb hby d1_233) hr
                    · exact ⟨by show _ = some (Value.int (f1 p1)); rw [f1, if_neg hc2, if_neg hc47, if_neg hc59, if_pos hc74, if_neg hc76, if_neg hc79, if_pos hc82, if_neg hc84, if_pos hc87], N0, e0⟩
                  · have pre89 : ∀ t, SS p e below m s₁ 233 #[iv p1, iv (1 : Int32)] [(.int (1 : Int32))] t → B t := fun t kk => pre86 t (by
                      refine XS.icmpNo X0.here hx rfl (hb hby d1_172) rfl (flt hc87).2.2.1 ?_
                      show SS p e below m s₁ 175 #[iv p1, .unset] [] _
                      refine XS.iconst X0.here hx rfl (hb hby d1_175) ?_
                      show SS p e below m s₁ 176 #[iv p1, .unset] [(.int (1 : Int32))] _
                      refine XS.goto X0.here hx rfl (pc0 := 176) (pc' := 180) rfl (hb hby d1_176) (by decide) (by decide) ?_
                      show SS p e below m s₁ 180 #[iv p1, .unset] [(.int (1 : Int32))] _
                      refine XS.istoreN X0.here hx rfl (hb hby d1_180) rfl (l' := #[iv p1, iv (1 : Int32)]) rfl ?_
                      show SS p e below m s₁ 181 #[iv p1, iv (1 : Int32)] [] _
                      refine XS.goto X0.here hx rfl (pc0 := 181) (pc' := 232) rfl (hb hby d1_181) (by decide) (by decide) ?_
                      show SS p e below m s₁ 232 #[iv p1, iv (1 : Int32)] [] _
                      refine XS.iloadN X0.here hx rfl (hb hby d1_232) rfl ?_
                      show SS p e below m s₁ 233 #[iv p1, iv (1 : Int32)] [(.int (1 : Int32))] _
                      exact kk)
                    obtain ⟨fs, hr, hrun, hended, hW, hsame⟩ := X0.leave (v := some (.int (1 : Int32))) (fun h => by rw [Bd.returns] at h; cases h)
                    refine ⟨_, _, hB _ (pre89 _ ?_), hrun, hended, _, _, rfl, ?_, ⟨_, rfl⟩, hW, hsame.mono (by decide) (by decide)⟩
                    · exact retN X0 hx (t := .boolean) Bd.returns (by simp) (hb hby d1_233) hr
                    · exact ⟨by show _ = some (Value.int (f1 p1)); rw [f1, if_neg hc2, if_neg hc47, if_neg hc59, if_pos hc74, if_neg hc76, if_neg hc79, if_pos hc82, if_neg hc84, if_neg hc87], N0, e0⟩
              · have pre90 : ∀ t, SS p e below m s₁ 158 #[iv p1, .unset] [(.int (8591 : Int32)), (.int p1)] t → B t := fun t kk => pre81 t (by
                  refine XS.icmpNo X0.here hx rfl (hb hby d1_151) rfl (flt hc82).1 ?_
                  show SS p e below m s₁ 154 #[iv p1, .unset] [] _
                  refine XS.iloadN X0.here hx rfl (hb hby d1_154) rfl ?_
                  show SS p e below m s₁ 155 #[iv p1, .unset] [(.int p1)] _
                  refine XS.sipush X0.here hx rfl (hb hby d1_155) ?_
                  show SS p e below m s₁ 158 #[iv p1, .unset] [(.int (8591 : Int32)), (.int p1)] _
                  exact kk)
                by_cases hc91 : (8591 : Int32) < p1
                · have pre92 : ∀ t, SS p e below m s₁ 165 #[iv p1, .unset] [(.int (11264 : Int32)), (.int p1)] t → B t := fun t kk => pre90 t (by
                    refine XS.icmpNo X0.here hx rfl (hb hby d1_158) rfl (tlt hc91).2.2.2 ?_
                    show SS p e below m s₁ 161 #[iv p1, .unset] [] _
                    refine XS.iloadN X0.here hx rfl (hb hby d1_161) rfl ?_
                    show SS p e below m s₁ 162 #[iv p1, .unset] [(.int p1)] _
                    refine XS.sipush X0.here hx rfl (hb hby d1_162) ?_
                    show SS p e below m s₁ 165 #[iv p1, .unset] [(.int (11264 : Int32)), (.int p1)] _
                    exact kk)
                  by_cases hc93 : p1 < (11264 : Int32)
                  · have pre94 : ∀ t, SS p e below m s₁ 233 #[iv p1, iv (0 : Int32)] [(.int (0 : Int32))] t → B t := fun t kk => pre92 t (by
                      refine XS.icmpYes X0.here hx rfl (pc0 := 165) (pc' := 179) rfl (hb hby d1_165) rfl (tlt hc93).1 (by decide) (by decide) ?_
                      show SS p e below m s₁ 179 #[iv p1, .unset] [] _
                      refine XS.iconst X0.here hx rfl (hb hby d1_179) ?_
                      show SS p e below m s₁ 180 #[iv p1, .unset] [(.int (0 : Int32))] _
                      refine XS.istoreN X0.here hx rfl (hb hby d1_180) rfl (l' := #[iv p1, iv (0 : Int32)]) rfl ?_
                      show SS p e below m s₁ 181 #[iv p1, iv (0 : Int32)] [] _
                      refine XS.goto X0.here hx rfl (pc0 := 181) (pc' := 232) rfl (hb hby d1_181) (by decide) (by decide) ?_
                      show SS p e below m s₁ 232 #[iv p1, iv (0 : Int32)] [] _
                      refine XS.iloadN X0.here hx rfl (hb hby d1_232) rfl ?_
                      show SS p e below m s₁ 233 #[iv p1, iv (0 : Int32)] [(.int (0 : Int32))] _
                      exact kk)
                    obtain ⟨fs, hr, hrun, hended, hW, hsame⟩ := X0.leave (v := some (.int (0 : Int32))) (fun h => by rw [Bd.returns] at h; cases h)
                    refine ⟨_, _, hB _ (pre94 _ ?_), hrun, hended, _, _, rfl, ?_, ⟨_, rfl⟩, hW, hsame.mono (by decide) (by decide)⟩
                    · exact retN X0 hx (t := .boolean) Bd.returns (by simp) (hb hby d1_233) hr
                    · exact ⟨by show _ = some (Value.int (f1 p1)); rw [f1, if_neg hc2, if_neg hc47, if_neg hc59, if_pos hc74, if_neg hc76, if_neg hc79, if_neg hc82, if_pos hc91, if_pos hc93], N0, e0⟩
                  · have pre95 : ∀ t, SS p e below m s₁ 172 #[iv p1, .unset] [(.int (12271 : Int32)), (.int p1)] t → B t := fun t kk => pre92 t (by
                      refine XS.icmpNo X0.here hx rfl (hb hby d1_165) rfl (flt hc93).1 ?_
                      show SS p e below m s₁ 168 #[iv p1, .unset] [] _
                      refine XS.iloadN X0.here hx rfl (hb hby d1_168) rfl ?_
                      show SS p e below m s₁ 169 #[iv p1, .unset] [(.int p1)] _
                      refine XS.sipush X0.here hx rfl (hb hby d1_169) ?_
                      show SS p e below m s₁ 172 #[iv p1, .unset] [(.int (12271 : Int32)), (.int p1)] _
                      exact kk)
                    by_cases hc96 : (12271 : Int32) < p1
                    · have pre97 : ∀ t, SS p e below m s₁ 233 #[iv p1, iv (0 : Int32)] [(.int (0 : Int32))] t → B t := fun t kk => pre95 t (by
                        refine XS.icmpYes X0.here hx rfl (pc0 := 172) (pc' := 179) rfl (hb hby d1_172) rfl (tlt hc96).2.2.1 (by decide) (by decide) ?_
                        show SS p e below m s₁ 179 #[iv p1, .unset] [] _
                        refine XS.iconst X0.here hx rfl (hb hby d1_179) ?_
                        show SS p e below m s₁ 180 #[iv p1, .unset] [(.int (0 : Int32))] _
                        refine XS.istoreN X0.here hx rfl (hb hby d1_180) rfl (l' := #[iv p1, iv (0 : Int32)]) rfl ?_
                        show SS p e below m s₁ 181 #[iv p1, iv (0 : Int32)] [] _
                        refine XS.goto X0.here hx rfl (pc0 := 181) (pc' := 232) rfl (hb hby d1_181) (by decide) (by decide) ?_
                        show SS p e below m s₁ 232 #[iv p1, iv (0 : Int32)] [] _
                        refine XS.iloadN X0.here hx rfl (hb hby d1_232) rfl ?_
                        show SS p e below m s₁ 233 #[iv p1, iv (0 : Int32)] [(.int (0 : Int32))] _
                        exact kk)
                      obtain ⟨fs, hr, hrun, hended, hW, hsame⟩ := X0.leave (v := some (.int (0 : Int32))) (fun h => by rw [Bd.returns] at h; cases h)
                      refine ⟨_, _, hB _ (pre97 _ ?_), hrun, hended, _, _, rfl, ?_, ⟨_, rfl⟩, hW, hsame.mono (by decide) (by decide)⟩
                      · exact retN X0 hx (t := .boolean) Bd.returns (by simp) (hb hby d1_233) hr
                      · exact ⟨by show _ = some (Value.int (f1 p1)); rw [f1, if_neg hc2, if_neg hc47, if_neg hc59, if_pos hc74, if_neg hc76, if_neg hc79, if_neg hc82, if_pos hc91, if_neg hc93, if_pos hc96], N0, e0⟩
                    · have pre98 : ∀ t, SS p e below m s₁ 233 #[iv p1, iv (1 : Int32)] [(.int (1 : Int32))] t → B t := fun t kk => pre95 t (by
                        refine XS.icmpNo X0.here hx rfl (hb hby d1_172) rfl (flt hc96).2.2.1 ?_
                        show SS p e below m s₁ 175 #[iv p1, .unset] [] _
                        refine XS.iconst X0.here hx rfl (hb hby d1_175) ?_
                        show SS p e below m s₁ 176 #[iv p1, .unset] [(.int (1 : Int32))] _
                        refine XS.goto X0.here hx rfl (pc0 := 176) (pc' := 180) rfl (hb hby d1_176) (by decide) (by decide) ?_
                        show SS p e below m s₁ 180 #[iv p1, .unset] [(.int (1 : Int32))] _
                        refine XS.istoreN X0.here hx rfl (hb hby d1_180) rfl (l' := #[iv p1, iv (1 : Int32)]) rfl ?_
                        show SS p e below m s₁ 181 #[iv p1, iv (1 : Int32)] [] _
                        refine XS.goto X0.here hx rfl (pc0 := 181) (pc' := 232) rfl (hb hby d1_181) (by decide) (by decide) ?_
                        show SS p e below m s₁ 232 #[iv p1, iv (1 : Int32)] [] _
                        refine XS.iloadN X0.here hx rfl (hb hby d1_232) rfl ?_
                        show SS p e below m s₁ 233 #[iv p1, iv (1 : Int32)] [(.int (1 : Int32))] _
                        exact kk)
                      obtain ⟨fs, hr, hrun, hended, hW, hsame⟩ := X0.leave (v := some (.int (1 : Int32))) (fun h => by rw [Bd.returns] at h; cases h)
                      refine ⟨_, _, hB _ (pre98 _ ?_), hrun, hended, _, _, rfl, ?_, ⟨_, rfl⟩, hW, hsame.mono (by decide) (by decide)⟩
                      · exact retN X0 hx (t := .boolean) Bd.returns (by simp) (hb hby d1_233) hr
                      · exact ⟨by show _ = some (Value.int (f1 p1)); rw [f1, if_neg hc2, if_neg hc47, if_neg hc59, if_pos hc74, if_neg hc76, if_neg hc79, if_neg hc82, if_pos hc91, if_neg hc93, if_neg hc96], N0, e0⟩
                · have pre99 : ∀ t, SS p e below m s₁ 233 #[iv p1, iv (1 : Int32)] [(.int (1 : Int32))] t → B t := fun t kk => pre90 t (by
                    refine XS.icmpYes X0.here hx rfl (pc0 := 158) (pc' := 175) rfl (hb hby d1_158) rfl (flt hc91).2.2.2 (by decide) (by decide) ?_
                    show SS p e below m s₁ 175 #[iv p1, .unset] [] _
                    refine XS.iconst X0.here hx rfl (hb hby d1_175) ?_
                    show SS p e below m s₁ 176 #[iv p1, .unset] [(.int (1 : Int32))] _
                    refine XS.goto X0.here hx rfl (pc0 := 176) (pc' := 180) rfl (hb hby d1_176) (by decide) (by decide) ?_
                    show SS p e below m s₁ 180 #[iv p1, .unset] [(.int (1 : Int32))] _
                    refine XS.istoreN X0.here hx rfl (hb hby d1_180) rfl (l' := #[iv p1, iv (1 : Int32)]) rfl ?_
                    show SS p e below m s₁ 181 #[iv p1, iv (1 : Int32)] [] _
                    refine XS.goto X0.here hx rfl (pc0 := 181) (pc' := 232) rfl (hb hby d1_181) (by decide) (by decide) ?_
                    show SS p e below m s₁ 232 #[iv p1, iv (1 : Int32)] [] _
                    refine XS.iloadN X0.here hx rfl (hb hby d1_232) rfl ?_
                    show SS p e below m s₁ 233 #[iv p1, iv (1 : Int32)] [(.int (1 : Int32))] _
                    exact kk)
                  obtain ⟨fs, hr, hrun, hended, hW, hsame⟩ := X0.leave (v := some (.int (1 : Int32))) (fun h => by rw [Bd.returns] at h; cases h)
                  refine ⟨_, _, hB _ (pre99 _ ?_), hrun, hended, _, _, rfl, ?_, ⟨_, rfl⟩, hW, hsame.mono (by decide) (by decide)⟩
                  · exact retN X0 hx (t := .boolean) Bd.returns (by simp) (hb hby d1_233) hr
                  · exact ⟨by show _ = some (Value.int (f1 p1)); rw [f1, if_neg hc2, if_neg hc47, if_neg hc59, if_pos hc74, if_neg hc76, if_neg hc79, if_neg hc82, if_neg hc91], N0, e0⟩
        · have pre100 : ∀ t, SS p e below m s₁ 187 #[iv p1, .unset] [(.int (55295 : Int32)), (.int p1)] t → B t := fun t kk => pre73 t (by
            refine XS.icmpYes X0.here hx rfl (pc0 := 130) (pc' := 184) rfl (hb hby d1_130) rfl (flt hc74).2.1 (by decide) (by decide) ?_
            show SS p e below m s₁ 184 #[iv p1, .unset] [] _
            refine XS.iloadN X0.here hx rfl (hb hby d1_184) rfl ?_
            show SS p e below m s₁ 185 #[iv p1, .unset] [(.int p1)] _
            refine X0.ldcInt hx hown (mvT hZ (hw _ (List.mem_of_getElem? (i := 25) rfl))) (g := (mkF m 185 #[iv p1, .unset] [(.int p1)])) rfl (hb hby d1_185) _ ?_
            show SS p e below m s₁ 187 #[iv p1, .unset] [(.int (55295 : Int32)), (.int p1)] _
            exact kk)
          by_cases hc101 : (55295 : Int32) < p1
          · have pre102 : ∀ t, SS p e below m s₁ 193 #[iv p1, .unset] [(.int (63744 : Int32)), (.int p1)] t → B t := fun t kk => pre100 t (by
              refine XS.icmpNo X0.here hx rfl (hb hby d1_187) rfl (tlt hc101).2.2.2 ?_
              show SS p e below m s₁ 190 #[iv p1, .unset] [] _
              refine XS.iloadN X0.here hx rfl (hb hby d1_190) rfl ?_
              show SS p e below m s₁ 191 #[iv p1, .unset] [(.int p1)] _
              refine X0.ldcInt hx hown (mvT hZ (hw _ (List.mem_of_getElem? (i := 26) rfl))) (g := (mkF m 191 #[iv p1, .unset] [(.int p1)])) rfl (hb hby d1_191) _ ?_
              show SS p e below m s₁ 193 #[iv p1, .unset] [(.int (63744 : Int32)), (.int p1)] _
              exact kk)
            by_cases hc103 : p1 < (63744 : Int32)
            · have pre104 : ∀ t, SS p e below m s₁ 205 #[iv p1, .unset] [(.int (65008 : Int32)), (.int p1)] t → B t := fun t kk => pre102 t (by
                refine XS.icmpYes X0.here hx rfl (pc0 := 193) (pc' := 202) rfl (hb hby d1_193) rfl (tlt hc103).1 (by decide) (by decide) ?_
                show SS p e below m s₁ 202 #[iv p1, .unset] [] _
                refine XS.iloadN X0.here hx rfl (hb hby d1_202) rfl ?_
                show SS p e below m s₁ 203 #[iv p1, .unset] [(.int p1)] _
                refine X0.ldcInt hx hown (mvT hZ (hw _ (List.mem_of_getElem? (i := 28) rfl))) (g := (mkF m 203 #[iv p1, .unset] [(.int p1)])) rfl (hb hby d1_203) _ ?_
                show SS p e below m s₁ 205 #[iv p1, .unset] [(.int (65008 : Int32)), (.int p1)] _
                exact kk)
              by_cases hc105 : p1 < (65008 : Int32)
              · have pre106 : ∀ t, SS p e below m s₁ 217 #[iv p1, .unset] [(.int (65536 : Int32)), (.int p1)] t → B t := fun t kk => pre104 t (by
                  refine XS.icmpYes X0.here hx rfl (pc0 := 205) (pc' := 214) rfl (hb hby d1_205) rfl (tlt hc105).1 (by decide) (by decide) ?_
                  show SS p e below m s₁ 214 #[iv p1, .unset] [] _
                  refine XS.iloadN X0.here hx rfl (hb hby d1_214) rfl ?_
                  show SS p e below m s₁ 215 #[iv p1, .unset] [(.int p1)] _
                  refine X0.ldcInt hx hown (mvT hZ (hw _ (List.mem_of_getElem? (i := 30) rfl))) (g := (mkF m 215 #[iv p1, .unset] [(.int p1)])) rfl (hb hby d1_215) _ ?_
                  show SS p e below m s₁ 217 #[iv p1, .unset] [(.int (65536 : Int32)), (.int p1)] _
                  exact kk)
                by_cases hc107 : p1 < (65536 : Int32)
                · have pre108 : ∀ t, SS p e below m s₁ 233 #[iv p1, iv (0 : Int32)] [(.int (0 : Int32))] t → B t := fun t kk => pre106 t (by
                    refine XS.icmpYes X0.here hx rfl (pc0 := 217) (pc' := 230) rfl (hb hby d1_217) rfl (tlt hc107).1 (by decide) (by decide) ?_
                    show SS p e below m s₁ 230 #[iv p1, .unset] [] _
                    refine XS.iconst X0.here hx rfl (hb hby d1_230) ?_
                    show SS p e below m s₁ 231 #[iv p1, .unset] [(.int (0 : Int32))] _
                    refine XS.istoreN X0.here hx rfl (hb hby d1_231) rfl (l' := #[iv p1, iv (0 : Int32)]) rfl ?_
                    show SS p e below m s₁ 232 #[iv p1, iv (0 : Int32)] [] _
                    refine XS.iloadN X0.here hx rfl (hb hby d1_232) rfl ?_
                    show SS p e below m s₁ 233 #[iv p1, iv (0 : Int32)] [(.int (0 : Int32))] _
                    exact kk)
                  obtain ⟨fs, hr, hrun, hended, hW, hsame⟩ := X0.leave (v := some (.int (0 : Int32))) (fun h => by rw [Bd.returns] at h; cases h)
                  refine ⟨_, _, hB _ (pre108 _ ?_), hrun, hended, _, _, rfl, ?_, ⟨_, rfl⟩, hW, hsame.mono (by decide) (by decide)⟩
                  · exact retN X0 hx (t := .boolean) Bd.returns (by simp) (hb hby d1_233) hr
                  · exact ⟨by show _ = some (Value.int (f1 p1)); rw [f1, if_neg hc2, if_neg hc47, if_neg hc59, if_neg hc74, if_pos hc101, if_pos hc103, if_pos hc105, if_pos hc107], N0, e0⟩
                · have pre109 : ∀ t, SS p e below m s₁ 223 #[iv p1, .unset] [(.int (983039 : Int32)), (.int p1)] t → B t := fun t kk => pre106 t (by
                    refine XS.icmpNo X0.here hx rfl (hb hby d1_217) rfl (flt hc107).1 ?_
                    show SS p e below m s₁ 220 #[iv p1, .unset] [] _
                    refine XS.iloadN X0.here hx rfl (hb hby d1_220) rfl ?_
                    show SS p e below m s₁ 221 #[iv p1, .unset] [(.int p1)] _
                    refine X0.ldcInt hx hown (mvT hZ (hw _ (List.mem_of_getElem? (i := 31) rfl))) (g := (mkF m 221 #[iv p1, .unset] [(.int p1)])) rfl (hb hby d1_221) _ ?_
                    show SS p e below m s₁ 223 #[iv p1, .unset] [(.int (983039 : Int32)), (.int p1)] _
                    exact kk)
                  by_cases hc110 : (983039 : Int32) < p1
                  · have pre111 : ∀ t, SS p e below m s₁ 233 #[iv p1, iv (0 : Int32)] [(.int (0 : Int32))] t → B t := fun t kk => pre109 t (by
                      refine XS.icmpYes X0.here hx rfl (pc0 := 223) (pc' := 230) rfl (hb hby d1_223) rfl (tlt hc110).2.2.1 (by decide) (by decide) ?_
                      show SS p e below m s₁ 230 #[iv p1, .unset] [] _
                      refine XS.iconst X0.here hx rfl (hb hby d1_230) ?_
                      show SS p e below m s₁ 231 #[iv p1, .unset] [(.int (0 : Int32))] _
                      refine XS.istoreN X0.here hx rfl (hb hby d1_231) rfl (l' := #[iv p1, iv (0 : Int32)]) rfl ?_
                      show SS p e below m s₁ 232 #[iv p1, iv (0 : Int32)] [] _
                      refine XS.iloadN X0.here hx rfl (hb hby d1_232) rfl ?_
                      show SS p e below m s₁ 233 #[iv p1, iv (0 : Int32)] [(.int (0 : Int32))] _
                      exact kk)
                    obtain ⟨fs, hr, hrun, hended, hW, hsame⟩ := X0.leave (v := some (.int (0 : Int32))) (fun h => by rw [Bd.returns] at h; cases h)
                    refine ⟨_, _, hB _ (pre111 _ ?_), hrun, hended, _, _, rfl, ?_, ⟨_, rfl⟩, hW, hsame.mono (by decide) (by decide)⟩
                    · exact retN X0 hx (t := .boolean) Bd.returns (by simp) (hb hby d1_233) hr
                    · exact ⟨by show _ = some (Value.int (f1 p1)); rw [f1, if_neg hc2, if_neg hc47, if_neg hc59, if_neg hc74, if_pos hc101, if_pos hc103, if_pos hc105, if_neg hc107, if_pos hc110], N0, e0⟩
                  · have pre112 : ∀ t, SS p e below m s₁ 233 #[iv p1, iv (1 : Int32)] [(.int (1 : Int32))] t → B t := fun t kk => pre109 t (by
                      refine XS.icmpNo X0.here hx rfl (hb hby d1_223) rfl (flt hc110).2.2.1 ?_
                      show SS p e below m s₁ 226 #[iv p1, .unset] [] _
                      refine XS.iconst X0.here hx rfl (hb hby d1_226) ?_
                      show SS p e below m s₁ 227 #[iv p1, .unset] [(.int (1 : Int32))] _
                      refine XS.goto X0.here hx rfl (pc0 := 227) (pc' := 231) rfl (hb hby d1_227) (by decide) (by decide) ?_
                      show SS p e below m s₁ 231 #[iv p1, .unset] [(.int (1 : Int32))] _
                      refine XS.istoreN X0.here hx rfl (hb hby d1_231) rfl (l' := #[iv p1, iv (1 : Int32)]) rfl ?_
                      show SS p e below m s₁ 232 #[iv p1, iv (1 : Int32)] [] _
                      refine XS.iloadN X0.here hx rfl (hb hby d1_232) rfl ?_
                      show SS p e below m s₁ 233 #[iv p1, iv (1 : Int32)] [(.int (1 : Int32))] _
                      exact kk)
                    obtain ⟨fs, hr, hrun, hended, hW, hsame⟩ := X0.leave (v := some (.int (1 : Int32))) (fun h => by rw [Bd.returns] at h; cases h)
                    refine ⟨_, _, hB _ (pre112 _ ?_), hrun, hended, _, _, rfl, ?_, ⟨_, rfl⟩, hW, hsame.mono (by decide) (by decide)⟩
                    · exact retN X0 hx (t := .boolean) Bd.returns (by simp) (hb hby d1_233) hr
                    · exact ⟨by show _ = some (Value.int (f1 p1)); rw [f1, if_neg hc2, if_neg hc47, if_neg hc59, if_neg hc74, if_pos hc101, if_pos hc103, if_pos hc105, if_neg hc107, if_neg hc110], N0, e0⟩
              · have pre113 : ∀ t, SS p e below m s₁ 211 #[iv p1, .unset] [(.int (65533 : Int32)), (.int p1)] t → B t := fun t kk => pre104 t (by
                  refine XS.icmpNo X0.here hx rfl (hb hby d1_205) rfl (flt hc105).1 ?_
                  show SS p e below m s₁ 208 #[iv p1, .unset] [] _
                  refine XS.iloadN X0.here hx rfl (hb hby d1_208) rfl ?_
                  show SS p e below m s₁ 209 #[iv p1, .unset] [(.int p1)] _
                  refine X0.ldcInt hx hown (mvT hZ (hw _ (List.mem_of_getElem? (i := 29) rfl))) (g := (mkF m 209 #[iv p1, .unset] [(.int p1)])) rfl (hb hby d1_209) _ ?_
                  show SS p e below m s₁ 211 #[iv p1, .unset] [(.int (65533 : Int32)), (.int p1)] _
                  exact kk)
                by_cases hc114 : (65533 : Int32) < p1
                · have pre115 : ∀ t, SS p e below m s₁ 217 #[iv p1, .unset] [(.int (65536 : Int32)), (.int p1)] t → B t := fun t kk => pre113 t (by
                    refine XS.icmpNo X0.here hx rfl (hb hby d1_211) rfl (tlt hc114).2.2.2 ?_
                    show SS p e below m s₁ 214 #[iv p1, .unset] [] _
                    refine XS.iloadN X0.here hx rfl (hb hby d1_214) rfl ?_
                    show SS p e below m s₁ 215 #[iv p1, .unset] [(.int p1)] _
                    refine X0.ldcInt hx hown (mvT hZ (hw _ (List.mem_of_getElem? (i := 30) rfl))) (g := (mkF m 215 #[iv p1, .unset] [(.int p1)])) rfl (hb hby d1_215) _ ?_
                    show SS p e below m s₁ 217 #[iv p1, .unset] [(.int (65536 : Int32)), (.int p1)] _
                    exact kk)
                  by_cases hc116 : p1 < (65536 : Int32)
                  · have pre117 : ∀ t, SS p e below m s₁ 233 #[iv p1, iv (0 : Int32)] [(.int (0 : Int32))] t → B t := fun t kk => pre115 t (by
                      refine XS.icmpYes X0.here hx rfl (pc0 := 217) (pc' := 230) rfl (hb hby d1_217) rfl (tlt hc116).1 (by decide) (by decide) ?_
                      show SS p e below m s₁ 230 #[iv p1, .unset] [] _
                      refine XS.iconst X0.here hx rfl (hb hby d1_230) ?_
                      show SS p e below m s₁ 231 #[iv p1, .unset] [(.int (0 : Int32))] _
                      refine XS.istoreN X0.here hx rfl (hb hby d1_231) rfl (l' := #[iv p1, iv (0 : Int32)]) rfl ?_
                      show SS p e below m s₁ 232 #[iv p1, iv (0 : Int32)] [] _
                      refine XS.iloadN X0.here hx rfl (hb hby d1_232) rfl ?_
                      show SS p e below m s₁ 233 #[iv p1, iv (0 : Int32)] [(.int (0 : Int32))] _
                      exact kk)
                    obtain ⟨fs, hr, hrun, hended, hW, hsame⟩ := X0.leave (v := some (.int (0 : Int32))) (fun h => by rw [Bd.returns] at h; cases h)
                    refine ⟨_, _, hB _ (pre117 _ ?_), hrun, hended, _, _, rfl, ?_, ⟨_, rfl⟩, hW, hsame.mono (by decide) (by decide)⟩
                    · exact retN X0 hx (t := .boolean) Bd.returns (by simp) (hb hby d1_233) hr
                    · exact ⟨by show _ = some (Value.int (f1 p1)); rw [f1, if_neg hc2, if_neg hc47, if_neg hc59, if_neg hc74, if_pos hc101, if_pos hc103, if_neg hc105, if_pos hc114, if_pos hc116], N0, e0⟩
                  · have pre118 : ∀ t, SS p e below m s₁ 223 #[iv p1, .unset] [(.int (983039 : Int32)), (.int p1)] t → B t := fun t kk => pre115 t (by
                      refine XS.icmpNo X0.here hx rfl (hb hby d1_217) rfl (flt hc116).1 ?_
                      show SS p e below m s₁ 220 #[iv p1, .unset] [] _
                      refine XS.iloadN X0.here hx rfl (hb hby d1_220) rfl ?_
                      show SS p e below m s₁ 221 #[iv p1, .unset] [(.int p1)] _
                      refine X0.ldcInt hx hown (mvT hZ (hw _ (List.mem_of_getElem? (i := 31) rfl))) (g := (mkF m 221 #[iv p1, .unset] [(.int p1)])) rfl (hb hby d1_221) _ ?_
                      show SS p e below m s₁ 223 #[iv p1, .unset] [(.int (983039 : Int32)), (.int p1)] _
                      exact kk)
                    by_cases hc119 : (983039 : Int32) < p1
                    · have pre120 : ∀ t, SS p e below m s₁ 233 #[iv p1, iv (0 : Int32)] [(.int (0 : Int32))] t → B t := fun t kk => pre118 t (by
                        refine XS.icmpYes X0.here hx rfl (pc0 := 223) (pc' := 230) rfl (hb hby d1_223) rfl (tlt hc119).2.2.1 (by decide) (by decide) ?_
                        show SS p e below m s₁ 230 #[iv p1, .unset] [] _
                        refine XS.iconst X0.here hx rfl (hb hby d1_230) ?_
                        show SS p e below m s₁ 231 #[iv p1, .unset] [(.int (0 : Int32))] _
                        refine XS.istoreN X0.here hx rfl (hb hby d1_231) rfl (l' := #[iv p1, iv (0 : Int32)]) rfl ?_
                        show SS p e below m s₁ 232 #[iv p1, iv (0 : Int32)] [] _
                        refine XS.iloadN X0.here hx rfl (hb hby d1_232) rfl ?_
                        show SS p e below m s₁ 233 #[iv p1, iv (0 : Int32)] [(.int (0 : Int32))] _
                        exact kk)
                      obtain ⟨fs, hr, hrun, hended, hW, hsame⟩ := X0.leave (v := some (.int (0 : Int32))) (fun h => by rw [Bd.returns] at h; cases h)
                      refine ⟨_, _, hB _ (pre120 _ ?_), hrun, hended, _, _, rfl, ?_, ⟨_, rfl⟩, hW, hsame.mono (by decide) (by decide)⟩
                      · exact retN X0 hx (t := .boolean) Bd.returns (by simp) (hb hby d1_233) hr
                      · exact ⟨by show _ = some (Value.int (f1 p1)); rw [f1, if_neg hc2, if_neg hc47, if_neg hc59, if_neg hc74, if_pos hc101, if_pos hc103, if_neg hc105, if_pos hc114, if_neg hc116, if_pos hc119], N0, e0⟩
                    · have pre121 : ∀ t, SS p e below m s₁ 233 #[iv p1, iv (1 : Int32)] [(.int (1 : Int32))] t → B t := fun t kk => pre118 t (by
                        refine XS.icmpNo X0.here hx rfl (hb hby d1_223) rfl (flt hc119).2.2.1 ?_
                        show SS p e below m s₁ 226 #[iv p1, .unset] [] _
                        refine XS.iconst X0.here hx rfl (hb hby d1_226) ?_
                        show SS p e below m s₁ 227 #[iv p1, .unset] [(.int (1 : Int32))] _
                        refine XS.goto X0.here hx rfl (pc0 := 227) (pc' := 231) rfl (hb hby d1_227) (by decide) (by decide) ?_
                        show SS p e below m s₁ 231 #[iv p1, .unset] [(.int (1 : Int32))] _
                        refine XS.istoreN X0.here hx rfl (hb hby d1_231) rfl (l' := #[iv p1, iv (1 : Int32)]) rfl ?_
                        show SS p e below m s₁ 232 #[iv p1, iv (1 : Int32)] [] _
                        refine XS.iloadN X0.here hx rfl (hb hby d1_232) rfl ?_
                        show SS p e below m s₁ 233 #[iv p1, iv (1 : Int32)] [(.int (1 : Int32))] _
                        exact kk)
                      obtain ⟨fs, hr, hrun, hended, hW, hsame⟩ := X0.leave (v := some (.int (1 : Int32))) (fun h => by rw [Bd.returns] at h; cases h)
                      refine ⟨_, _, hB _ (pre121 _ ?_), hrun, hended, _, _, rfl, ?_, ⟨_, rfl⟩, hW, hsame.mono (by decide) (by decide)⟩
                      · exact retN X0 hx (t := .boolean) Bd.returns (by simp) (hb hby d1_233) hr
                      · exact ⟨by show _ = some (Value.int (f1 p1)); rw [f1, if_neg hc2, if_neg hc47, if_neg hc59, if_neg hc74, if_pos hc101, if_pos hc103, if_neg hc105, if_pos hc114, if_neg hc116, if_neg hc119], N0, e0⟩
                · have pre122 : ∀ t, SS p e below m s₁ 233 #[iv p1, iv (1 : Int32)] [(.int (1 : Int32))] t → B t := fun t kk => pre113 t (by
                    refine XS.icmpYes X0.here hx rfl (pc0 := 211) (pc' := 226) rfl (hb hby d1_211) rfl (flt hc114).2.2.2 (by decide) (by decide) ?_
                    show SS p e below m s₁ 226 #[iv p1, .unset] [] _
                    refine XS.iconst X0.here hx rfl (hb hby d1_226) ?_
                    show SS p e below m s₁ 227 #[iv p1, .unset] [(.int (1 : Int32))] _
                    refine XS.goto X0.here hx rfl (pc0 := 227) (pc' := 231) rfl (hb hby d1_227) (by decide) (by decide) ?_
                    show SS p e below m s₁ 231 #[iv p1, .unset] [(.int (1 : Int32))] _
                    refine XS.istoreN X0.here hx rfl (hb hby d1_231) rfl (l' := #[iv p1, iv (1 : Int32)]) rfl ?_
                    show SS p e below m s₁ 232 #[iv p1, iv (1 : Int32)] [] _
                    refine XS.iloadN X0.here hx rfl (hb hby d1_232) rfl ?_
                    show SS p e below m s₁ 233 #[iv p1, iv (1 : Int32)] [(.int (1 : Int32))] _
                    exact kk)
                  obtain ⟨fs, hr, hrun, hended, hW, hsame⟩ := X0.leave (v := some (.int (1 : Int32))) (fun h => by rw [Bd.returns] at h; cases h)
                  refine ⟨_, _, hB _ (pre122 _ ?_), hrun, hended, _, _, rfl, ?_, ⟨_, rfl⟩, hW, hsame.mono (by decide) (by decide)⟩
                  · exact retN X0 hx (t := .boolean) Bd.returns (by simp) (hb hby d1_233) hr
                  · exact ⟨by show _ = some (Value.int (f1 p1)); rw [f1, if_neg hc2, if_neg hc47, if_neg hc59, if_neg hc74, if_pos hc101, if_pos hc103, if_neg hc105, if_neg hc114], N0, e0⟩
            · have pre123 : ∀ t, SS p e below m s₁ 199 #[iv p1, .unset] [(.int (64975 : Int32)), (.int p1)] t → B t := fun t kk => pre102 t (by
                refine XS.icmpNo X0.here hx rfl (hb hby d1_193) rfl (flt hc103).1 ?_
                show SS p e below m s₁ 196 #[iv p1, .unset] [] _
                refine XS.iloadN X0.here hx rfl (hb hby d1_196) rfl ?_
                show SS p e below m s₁ 197 #[iv p1, .unset] [(.int p1)] _
                refine X0.ldcInt hx hown (mvT hZ (hw _ (List.mem_of_getElem? (i := 27) rfl))) (g := (mkF m 197 #[iv p1, .unset] [(.int p1)])) rfl (hb hby d1_197) _ ?_
                show SS p e below m s₁ 199 #[iv p1, .unset] [(.int (64975 : Int32)), (.int p1)] _
                exact kk)
              by_cases hc124 : (64975 : Int32) < p1
              · have pre125 : ∀ t, SS p e below m s₁ 205 #[iv p1, .unset] [(.int (65008 : Int32)), (.int p1)] t → B t := fun t kk => pre123 t (by
                  refine XS.icmpNo X0.here hx rfl (hb hby d1_199) rfl (tlt hc124).2.2.2 ?_
                  show SS p e below m s₁ 202 #[iv p1, .unset] [] _
                  refine XS.iloadN X0.here hx rfl (hb hby d1_202) rfl ?_
                  show SS p e below m s₁ 203 #[iv p1, .unset] [(.int p1)] _
                  refine X0.ldcInt hx hown (mvT hZ (hw _ (List.mem_of_getElem? (i := 28) rfl))) (g := (mkF m 203 #[iv p1, .unset] [(.int p1)])) rfl (hb hby d1_203) _ ?_
                  show SS p e below m s₁ 205 #[iv p1, .unset] [(.int (65008 : Int32)), (.int p1)] _
                  exact kk)
                by_cases hc126 : p1 < (65008 : Int32)
                · have pre127 : ∀ t, SS p e below m s₁ 217 #[iv p1, .unset] [(.int (65536 : Int32)), (.int p1)] t → B t := fun t kk => pre125 t (by
                    refine XS.icmpYes X0.here hx rfl (pc0 := 205) (pc' := 214) rfl (hb hby d1_205) rfl (tlt hc126).1 (by decide) (by decide) ?_
                    show SS p e below m s₁ 214 #[iv p1, .unset] [] _
                    refine XS.iloadN X0.here hx rfl (hb hby d1_214) rfl ?_
                    show SS p e below m s₁ 215 #[iv p1, .unset] [(.int p1)] _
                    refine X0.ldcInt hx hown (mvT hZ (hw _ (List.mem_of_getElem? (i := 30) rfl))) (g := (mkF m 215 #[iv p1, .unset] [(.int p1)])) rfl (hb hby d1_215) _ ?_
                    show SS p e below m s₁ 217 #[iv p1, .unset] [(.int (65536 : Int32)), (.int p1)] _
                    exact kk)
                  by_cases hc128 : p1 < (65536 : Int32)
                  · have pre129 : ∀ t, SS p e below m s₁ 233 #[iv p1, iv (0 : Int32)] [(.int (0 : Int32))] t → B t := fun t kk => pre127 t (by
                      refine XS.icmpYes X0.here hx rfl (pc0 := 217) (pc' := 230) rfl (hb hby d1_217) rfl (tlt hc128).1 (by decide) (by decide) ?_
                      show SS p e below m s₁ 230 #[iv p1, .unset] [] _
                      refine XS.iconst X0.here hx rfl (hb hby d1_230) ?_
                      show SS p e below m s₁ 231 #[iv p1, .unset] [(.int (0 : Int32))] _
                      refine XS.istoreN X0.here hx rfl (hb hby d1_231) rfl (l' := #[iv p1, iv (0 : Int32)]) rfl ?_
                      show SS p e below m s₁ 232 #[iv p1, iv (0 : Int32)] [] _
                      refine XS.iloadN X0.here hx rfl (hb hby d1_232) rfl ?_
                      show SS p e below m s₁ 233 #[iv p1, iv (0 : Int32)] [(.int (0 : Int32))] _
                      exact kk)
                    obtain ⟨fs, hr, hrun, hended, hW, hsame⟩ := X0.leave (v := some (.int (0 : Int32))) (fun h => by rw [Bd.returns] at h; cases h)
                    refine ⟨_, _, hB _ (pre129 _ ?_), hrun, hended, _, _, rfl, ?_, ⟨_, rfl⟩, hW, hsame.mono (by decide) (by decide)⟩
                    · exact retN X0 hx (t := .boolean) Bd.returns (by simp) (hb hby d1_233) hr
                    · exact ⟨by show _ = some (Value.int (f1 p1)); rw [f1, if_neg hc2, if_neg hc47, if_neg hc59, if_neg hc74, if_pos hc101, if_neg hc103, if_pos hc124, if_pos hc126, if_pos hc128], N0, e0⟩
                  · have pre130 : ∀ t, SS p e below m s₁ 223 #[iv p1, .unset] [(.int (983039 : Int32)), (.int p1)] t → B t := fun t kk => pre127 t (by
                      refine XS.icmpNo X0.here hx rfl (hb hby d1_217) rfl (flt hc128).1 ?_
                      show SS p e below m s₁ 220 #[iv p1, .unset] [] _
                      refine XS.iloadN X0.here hx rfl (hb hby d1_220) rfl ?_
                      show SS p e below m s₁ 221 #[iv p1, .unset] [(.int p1)] _
                      refine X0.ldcInt hx hown (mvT hZ (hw _ (List.mem_of_getElem? (i := 31) rfl))) (g := (mkF m 221 #[iv p1, .unset] [(.int p1)])) rfl (hb hby d1_221) _ ?_
                      show SS p e below m s₁ 223 #[iv p1, .unset] [(.int (983039 : Int32)), (.int p1)] _
                      exact kk)
                    by_cases hc131 : (983039 : Int32) < p1
                    · have pre132 : ∀ t, SS p e below m s₁ 233 #[iv p1, iv (0 : Int32)] [(.int (0 : Int32))] t → B t := fun t kk => pre130 t (by
                        refine XS.icmpYes X0.here hx rfl (pc0 := 223) (pc' := 230) rfl (hb hby d1_223) rfl (tlt hc131).2.2.1 (by decide) (by decide) ?_
                        show SS p e below m s₁ 230 #[iv p1, .unset] [] _
                        refine XS.iconst X0.here hx rfl (hb hby d1_230) ?_
                        show SS p e below m s₁ 231 #[iv p1, .unset] [(.int (0 : Int32))] _
                        refine XS.istoreN X0.here hx rfl (hb hby d1_231) rfl (l' := #[iv p1, iv (0 : Int32)]) rfl ?_
                        show SS p e below m s₁ 232 #[iv p1, iv (0 : Int32)] [] _
                        refine XS.iloadN X0.here hx rfl (hb hby d1_232) rfl ?_
                        show SS p e below m s₁ 233 #[iv p1, iv (0 : Int32)] [(.int (0 : Int32))] _
                        exact kk)
                      obtain ⟨fs, hr, hrun, hended, hW, hsame⟩ := X0.leave (v := some (.int (0 : Int32))) (fun h => by rw [Bd.returns] at h; cases h)
                      refine ⟨_, _, hB _ (pre132 _ ?_), hrun, hended, _, _, rfl, ?_, ⟨_, rfl⟩, hW, hsame.mono (by decide) (by decide)⟩
                      · exact retN X0 hx (t := .boolean) Bd.returns (by simp) (hb hby d1_233) hr
                      · exact ⟨by show _ = some (Value.int (f1 p1)); rw [f1, if_neg hc2, if_neg hc47, if_neg hc59, if_neg hc74, if_pos hc101, if_neg hc103, if_pos hc124, if_pos hc126, if_neg hc128, if_pos hc131], N0, e0⟩
                    · have pre133 : ∀ t, SS p e below m s₁ 233 #[iv p1, iv (1 : Int32)] [(.int (1 : Int32))] t → B t := fun t kk => pre130 t (by
                        refine XS.icmpNo X0.here hx rfl (hb hby d1_223) rfl (flt hc131).2.2.1 ?_
                        show SS p e below m s₁ 226 #[iv p1, .unset] [] _
                        refine XS.iconst X0.here hx rfl (hb hby d1_226) ?_
                        show SS p e below m s₁ 227 #[iv p1, .unset] [(.int (1 : Int32))] _
                        refine XS.goto X0.here hx rfl (pc0 := 227) (pc' := 231) rfl (hb hby d1_227) (by decide) (by decide) ?_
                        show SS p e below m s₁ 231 #[iv p1, .unset] [(.int (1 : Int32))] _
                        refine XS.istoreN X0.here hx rfl (hb hby d1_231) rfl (l' := #[iv p1, iv (1 : Int32)]) rfl ?_
                        show SS p e below m s₁ 232 #[iv p1, iv (1 : Int32)] [] _
                        refine XS.iloadN X0.here hx rfl (hb hby d1_232) rfl ?_
                        show SS p e below m s₁ 233 #[iv p1, iv (1 : Int32)] [(.int (1 : Int32))] _
                        exact kk)
                      obtain ⟨fs, hr, hrun, hended, hW, hsame⟩ := X0.leave (v := some (.int (1 : Int32))) (fun h => by rw [Bd.returns] at h; cases h)
                      refine ⟨_, _, hB _ (pre133 _ ?_), hrun, hended, _, _, rfl, ?_, ⟨_, rfl⟩, hW, hsame.mono (by decide) (by decide)⟩
                      · exact retN X0 hx (t := .boolean) Bd.returns (by simp) (hb hby d1_233) hr
                      · exact ⟨by show _ = some (Value.int (f1 p1)); rw [f1, if_neg hc2, if_neg hc47, if_neg hc59, if_neg hc74, if_pos hc101, if_neg hc103, if_pos hc124, if_pos hc126, if_neg hc128, if_neg hc131], N0, e0⟩
                · have pre134 : ∀ t, SS p e below m s₁ 211 #[iv p1, .unset] [(.int (65533 : Int32)), (.int p1)] t → B t := fun t kk => pre125 t (by
                    refine XS.icmpNo X0.here hx rfl (hb hby d1_205) rfl (flt hc126).1 ?_
                    show SS p e below m s₁ 208 #[iv p1, .unset] [] _
                    refine XS.iloadN X0.here hx rfl (hb hby d1_208) rfl ?_
                    show SS p e below m s₁ 209 #[iv p1, .unset] [(.int p1)] _
                    refine X0.ldcInt hx hown (mvT hZ (hw _ (List.mem_of_getElem? (i := 29) rfl))) (g := (mkF m 209 #[iv p1, .unset] [(.int p1)])) rfl (hb hby d1_209) _ ?_
                    show SS p e below m s₁ 211 #[iv p1, .unset] [(.int (65533 : Int32)), (.int p1)] _
                    exact kk)
                  by_cases hc135 : (65533 : Int32) < p1
                  · have pre136 : ∀ t, SS p e below m s₁ 217 #[iv p1, .unset] [(.int (65536 : Int32)), (.int p1)] t → B t := fun t kk => pre134 t (by
                      refine XS.icmpNo X0.here hx rfl (hb hby d1_211) rfl (tlt hc135).2.2.2 ?_
                      show SS p e below m s₁ 214 #[iv p1, .unset] [] _
                      refine XS.iloadN X0.here hx rfl (hb hby d1_214) rfl ?_
                      show SS p e below m s₁ 215 #[iv p1, .unset] [(.int p1)] _
                      refine X0.ldcInt hx hown (mvT hZ (hw _ (List.mem_of_getElem? (i := 30) rfl))) (g := (mkF m 215 #[iv p1, .unset] [(.int p1)])) rfl (hb hby d1_215) _ ?_
                      show SS p e below m s₁ 217 #[iv p1, .unset] [(.int (65536 : Int32)), (.int p1)] _
                      exact kk)
                    by_cases hc137 : p1 < (65536 : Int32)
                    · have pre138 : ∀ t, SS p e below m s₁ 233 #[iv p1, iv (0 : Int32)] [(.int (0 : Int32))] t → B t := fun t kk => pre136 t (by
                        refine XS.icmpYes X0.here hx rfl (pc0 := 217) (pc' := 230) rfl (hb hby d1_217) rfl (tlt hc137).1 (by decide) (by decide) ?_
                        show SS p e below m s₁ 230 #[iv p1, .unset] [] _
                        refine XS.iconst X0.here hx rfl (hb hby d1_230) ?_
                        show SS p e below m s₁ 231 #[iv p1, .unset] [(.int (0 : Int32))] _
                        refine XS.istoreN X0.here hx rfl (hb hby d1_231) rfl (l' := #[iv p1, iv (0 : Int32)]) rfl ?_
                        show SS p e below m s₁ 232 #[iv p1, iv (0 : Int32)] [] _
                        refine XS.iloadN X0.here hx rfl (hb hby d1_232) rfl ?_
                        show SS p e below m s₁ 233 #[iv p1, iv (0 : Int32)] [(.int (0 : Int32))] _
                        exact kk)
                      obtain ⟨fs, hr, hrun, hended, hW, hsame⟩ := X0.leave (v := some (.int (0 : Int32))) (fun h => by rw [Bd.returns] at h; cases h)
                      refine ⟨_, _, hB _ (pre138 _ ?_), hrun, hended, _, _, rfl, ?_, ⟨_, rfl⟩, hW, hsame.mono (by decide) (by decide)⟩
                      · exact retN X0 hx (t := .boolean) Bd.returns (by simp) (hb hby d1_233) hr
                      · exact ⟨by show _ = some (Value.int (f1 p1)); rw [f1, if_neg hc2, if_neg hc47, if_neg hc59, if_neg hc74, if_pos hc101, if_neg hc103, if_pos hc124, if_neg hc126, if_pos hc135, if_pos hc137], N0, e0⟩
                    · have pre139 : ∀ t, SS p e below m s₁ 223 #[iv p1, .unset] [(.int (983039 : Int32)), (.int p1)] t → B t := fun t kk => pre136 t (by
                        refine XS.icmpNo X0.here hx rfl (hb hby d1_217) rfl (flt hc137).1 ?_
                        show SS p e below m s₁ 220 #[iv p1, .unset] [] _
                        refine XS.iloadN X0.here hx rfl (hb hby d1_220) rfl ?_
                        show SS p e below m s₁ 221 #[iv p1, .unset] [(.int p1)] _
                        refine X0.ldcInt hx hown (mvT hZ (hw _ (List.mem_of_getElem? (i := 31) rfl))) (g := (mkF m 221 #[iv p1, .unset] [(.int p1)])) rfl (hb hby d1_221) _ ?_
                        show SS p e below m s₁ 223 #[iv p1, .unset] [(.int (983039 : Int32)), (.int p1)] _
                        exact kk)
                      by_cases hc140 : (983039 : Int32) < p1
                      · have pre141 : ∀ t, SS p e below m s₁ 233 #[iv p1, iv (0 : Int32)] [(.int (0 : Int32))] t → B t := fun t kk => pre139 t (by
                          refine XS.icmpYes X0.here hx rfl (pc0 := 223) (pc' := 230) rfl (hb hby d1_223) rfl (tlt hc140).2.2.1 (by decide) (by decide) ?_
                          show SS p e below m s₁ 230 #[iv p1, .unset] [] _
                          refine XS.iconst X0.here hx rfl (hb hby d1_230) ?_
                          show SS p e below m s₁ 231 #[iv p1, .unset] [(.int (0 : Int32))] _
                          refine XS.istoreN X0.here hx rfl (hb hby d1_231) rfl (l' := #[iv p1, iv (0 : Int32)]) rfl ?_
                          show SS p e below m s₁ 232 #[iv p1, iv (0 : Int32)] [] _
                          refine XS.iloadN X0.here hx rfl (hb hby d1_232) rfl ?_
                          show SS p e below m s₁ 233 #[iv p1, iv (0 : Int32)] [(.int (0 : Int32))] _
                          exact kk)
                        obtain ⟨fs, hr, hrun, hended, hW, hsame⟩ := X0.leave (v := some (.int (0 : Int32))) (fun h => by rw [Bd.returns] at h; cases h)
                        refine ⟨_, _, hB _ (pre141 _ ?_), hrun, hended, _, _, rfl, ?_, ⟨_, rfl⟩, hW, hsame.mono (by decide) (by decide)⟩
                        · exact retN X0 hx (t := .boolean) Bd.returns (by simp) (hb hby d1_233) hr
                        · exact ⟨by show _ = some (Value.int (f1 p1)); rw [f1, if_neg hc2, if_neg hc47, if_neg hc59, if_neg hc74, if_pos hc101, if_neg hc103, if_pos hc124, if_neg hc126, if_pos hc135, if_neg hc137, if_pos hc140], N0, e0⟩
                      · have pre142 : ∀ t, SS p e below m s₁ 233 #[iv p1, iv (1 : Int32)] [(.int (1 : Int32))] t → B t := fun t kk => pre139 t (by
                          refine XS.icmpNo X0.here hx rfl (hb hby d1_223) rfl (flt hc140).2.2.1 ?_
                          show SS p e below m s₁ 226 #[iv p1, .unset] [] _
                          refine XS.iconst X0.here hx rfl (hb hby d1_226) ?_
                          show SS p e below m s₁ 227 #[iv p1, .unset] [(.int (1 : Int32))] _
                          refine XS.goto X0.here hx rfl (pc0 := 227) (pc' := 231) rfl (hb hby d1_227) (by decide) (by decide) ?_
                          show SS p e below m s₁ 231 #[iv p1, .unset] [(.int (1 : Int32))] _
                          refine XS.istoreN X0.here hx rfl (hb hby d1_231) rfl (l' := #[iv p1, iv (1 : Int32)]) rfl ?_
                          show SS p e below m s₁ 232 #[iv p1, iv (1 : Int32)] [] _
                          refine XS.iloadN X0.here hx rfl (hb hby d1_232) rfl ?_
                          show SS p e below m s₁ 233 #[iv p1, iv (1 : Int32)] [(.int (1 : Int32))] _
                          exact kk)
                        obtain ⟨fs, hr, hrun, hended, hW, hsame⟩ := X0.leave (v := some (.int (1 : Int32))) (fun h => by rw [Bd.returns] at h; cases h)
                        refine ⟨_, _, hB _ (pre142 _ ?_), hrun, hended, _, _, rfl, ?_, ⟨_, rfl⟩, hW, hsame.mono (by decide) (by decide)⟩
                        · exact retN X0 hx (t := .boolean) Bd.returns (by simp) (hb hby d1_233) hr
                        · exact ⟨by show _ = some (Value.int (f1 p1)); rw [f1, if_neg hc2, if_neg hc47, if_neg hc59, if_neg hc74, if_pos hc101, if_neg hc103, if_pos hc124, if_neg hc126, if_pos hc135, if_neg hc137, if_neg hc140], N0, e0⟩
                  · have pre143 : ∀ t, SS p e below m s₁ 233 #[iv p1, iv (1 : Int32)] [(.int (1 : Int32))] t → B t := fun t kk => pre134 t (by
                      refine XS.icmpYes X0.here hx rfl (pc0 := 211) (pc' := 226) rfl (hb hby d1_211) rfl (flt hc135).2.2.2 (by decide) (by decide) ?_
                      show SS p e below m s₁ 226 #[iv p1, .unset] [] _
                      refine XS.iconst X0.here hx rfl (hb hby d1_226) ?_
                      show SS p e below m s₁ 227 #[iv p1, .unset] [(.int (1 : Int32))] _
                      refine XS.goto X0.here hx rfl (pc0 := 227) (pc' := 231) rfl (hb hby d1_227) (by decide) (by decide) ?_
                      show SS p e below m s₁ 231 #[iv p1, .unset] [(.int (1 : Int32))] _
                      refine XS.istoreN X0.here hx rfl (hb hby d1_231) rfl (l' := #[iv p1, iv (1 : Int32)]) rfl ?_
                      show SS p e below m s₁ 232 #[iv p1, iv (1 : Int32)] [] _
                      refine XS.iloadN X0.here hx rfl (hb hby d1_232) rfl ?_
                      show SS p e below m s₁ 233 #[iv p1, iv (1 : Int32)] [(.int (1 : Int32))] _
                      exact kk)
                    obtain ⟨fs, hr, hrun, hended, hW, hsame⟩ := X0.leave (v := some (.int (1 : Int32))) (fun h => by rw [Bd.returns] at h; cases h)
                    refine ⟨_, _, hB _ (pre143 _ ?_), hrun, hended, _, _, rfl, ?_, ⟨_, rfl⟩, hW, hsame.mono (by decide) (by decide)⟩
                    · exact retN X0 hx (t := .boolean) Bd.returns (by simp) (hb hby d1_233) hr
                    · exact ⟨by show _ = some (Value.int (f1 p1)); rw [f1, if_neg hc2, if_neg hc47, if_neg hc59, if_neg hc74, if_pos hc101, if_neg hc103, if_pos hc124, if_neg hc126, if_neg hc135], N0, e0⟩
              · have pre144 : ∀ t, SS p e below m s₁ 233 #[iv p1, iv (1 : Int32)] [(.int (1 : Int32))] t → B t := fun t kk => pre123 t (by
                  refine XS.icmpYes X0.here hx rfl (pc0 := 199) (pc' := 226) rfl (hb hby d1_199) rfl (flt hc124).2.2.2 (by decide) (by decide) ?_
                  show SS p e below m s₁ 226 #[iv p1, .unset] [] _
                  refine XS.iconst X0.here hx rfl (hb hby d1_226) ?_
                  show SS p e below m s₁ 227 #[iv p1, .unset] [(.int (1 : Int32))] _
                  refine XS.goto X0.here hx rfl (pc0 := 227) (pc' := 231) rfl (hb hby d1_227) (by decide) (by decide) ?_
                  show SS p e below m s₁ 231 #[iv p1, .unset] [(.int (1 : Int32))] _
                  refine XS.istoreN X0.here hx rfl (hb hby d1_231) rfl (l' := #[iv p1, iv (1 : Int32)]) rfl ?_
                  show SS p e below m s₁ 232 #[iv p1, iv (1 : Int32)] [] _
                  refine XS.iloadN X0.here hx rfl (hb hby d1_232) rfl ?_
                  show SS p e below m s₁ 233 #[iv p1, iv (1 : Int32)] [(.int (1 : Int32))] _
                  exact kk)
                obtain ⟨fs, hr, hrun, hended, hW, hsame⟩ := X0.leave (v := some (.int (1 : Int32))) (fun h => by rw [Bd.returns] at h; cases h)
                refine ⟨_, _, hB _ (pre144 _ ?_), hrun, hended, _, _, rfl, ?_, ⟨_, rfl⟩, hW, hsame.mono (by decide) (by decide)⟩
                · exact retN X0 hx (t := .boolean) Bd.returns (by simp) (hb hby d1_233) hr
                · exact ⟨by show _ = some (Value.int (f1 p1)); rw [f1, if_neg hc2, if_neg hc47, if_neg hc59, if_neg hc74, if_pos hc101, if_neg hc103, if_neg hc124], N0, e0⟩
          · have pre145 : ∀ t, SS p e below m s₁ 233 #[iv p1, iv (1 : Int32)] [(.int (1 : Int32))] t → B t := fun t kk => pre100 t (by
              refine XS.icmpYes X0.here hx rfl (pc0 := 187) (pc' := 226) rfl (hb hby d1_187) rfl (flt hc101).2.2.2 (by decide) (by decide) ?_
              show SS p e below m s₁ 226 #[iv p1, .unset] [] _
              refine XS.iconst X0.here hx rfl (hb hby d1_226) ?_
              show SS p e below m s₁ 227 #[iv p1, .unset] [(.int (1 : Int32))] _
              refine XS.goto X0.here hx rfl (pc0 := 227) (pc' := 231) rfl (hb hby d1_227) (by decide) (by decide) ?_
              show SS p e below m s₁ 231 #[iv p1, .unset] [(.int (1 : Int32))] _
              refine XS.istoreN X0.here hx rfl (hb hby d1_231) rfl (l' := #[iv p1, iv (1 : Int32)]) rfl ?_
              show SS p e below m s₁ 232 #[iv p1, iv (1 : Int32)] [] _
              refine XS.iloadN X0.here hx rfl (hb hby d1_232) rfl ?_
              show SS p e below m s₁ 233 #[iv p1, iv (1 : Int32)] [(.int (1 : Int32))] _
              exact kk)
            obtain ⟨fs, hr, hrun, hended, hW, hsame⟩ := X0.leave (v := some (.int (1 : Int32))) (fun h => by rw [Bd.returns] at h; cases h)
            refine ⟨_, _, hB _ (pre145 _ ?_), hrun, hended, _, _, rfl, ?_, ⟨_, rfl⟩, hW, hsame.mono (by decide) (by decide)⟩
            · exact retN X0 hx (t := .boolean) Bd.returns (by simp) (hb hby d1_233) hr
            · exact ⟨by show _ = some (Value.int (f1 p1)); rw [f1, if_neg hc2, if_neg hc47, if_neg hc59, if_neg hc74, if_neg hc101], N0, e0⟩
theorem d2_0 : decode method_3_code 0 = .ok (.iload_n 0, 1) := by decide +kernel
theorem d2_1 : decode method_3_code 1 = .ok (.bipush 58, 2) := by decide +kernel
theorem d2_3 : decode method_3_code 3 = .ok (.if_icmp .eq 180, 3) := by decide +kernel
theorem d2_6 : decode method_3_code 6 = .ok (.iload_n 0, 1) := by decide +kernel
theorem d2_7 : decode method_3_code 7 = .ok (.bipush 95, 2) := by decide +kernel
theorem d2_9 : decode method_3_code 9 = .ok (.if_icmp .eq 174, 3) := by decide +kernel
theorem d2_12 : decode method_3_code 12 = .ok (.iload_n 0, 1) := by decide +kernel
theorem d2_13 : decode method_3_code 13 = .ok (.bipush 65, 2) := by decide +kernel
theorem d2_15 : decode method_3_code 15 = .ok (.bipush 90, 2) := by decide +kernel
theorem d2_17 : decode method_3_code 17 = .ok (.invokestatic 7, 3) := by decide +kernel
theorem d2_20 : decode method_3_code 20 = .ok (.ifCond .ne 163, 3) := by decide +kernel
theorem d2_23 : decode method_3_code 23 = .ok (.iload_n 0, 1) := by decide +kernel
theorem d2_24 : decode method_3_code 24 = .ok (.bipush 97, 2) := by decide +kernel
theorem d2_26 : decode method_3_code 26 = .ok (.bipush 122, 2) := by decide +kernel
theorem d2_28 : decode method_3_code 28 = .ok (.invokestatic 7, 3) := by decide +kernel
theorem d2_31 : decode method_3_code 31 = .ok (.ifCond .ne 152, 3) := by decide +kernel
theorem d2_34 : decode method_3_code 34 = .ok (.iload_n 0, 1) := by decide +kernel
theorem d2_35 : decode method_3_code 35 = .ok (.sipush 192, 3) := by decide +kernel
theorem d2_38 : decode method_3_code 38 = .ok (.sipush 214, 3) := by decide +kernel
theorem d2_41 : decode method_3_code 41 = .ok (.invokestatic 7, 3) := by decide +kernel
theorem d2_44 : decode method_3_code 44 = .ok (.ifCond .ne 139, 3) := by decide +kernel
theorem d2_47 : decode method_3_code 47 = .ok (.iload_n 0, 1) := by decide +kernel
theorem d2_48 : decode method_3_code 48 = .ok (.sipush 216, 3) := by decide +kernel
theorem d2_51 : decode method_3_code 51 = .ok (.sipush 246, 3) := by decide +kernel
theorem d2_54 : decode method_3_code 54 = .ok (.invokestatic 7, 3) := by decide +kernel
theorem d2_57 : decode method_3_code 57 = .ok (.ifCond .ne 126, 3) := by decide +kernel
theorem d2_60 : decode method_3_code 60 = .ok (.iload_n 0, 1) := by decide +kernel
theorem d2_61 : decode method_3_code 61 = .ok (.sipush 248, 3) := by decide +kernel
theorem d2_64 : decode method_3_code 64 = .ok (.sipush 767, 3) := by decide +kernel
theorem d2_67 : decode method_3_code 67 = .ok (.invokestatic 7, 3) := by decide +kernel
theorem d2_70 : decode method_3_code 70 = .ok (.ifCond .ne 113, 3) := by decide +kernel
theorem d2_73 : decode method_3_code 73 = .ok (.iload_n 0, 1) := by decide +kernel
theorem d2_74 : decode method_3_code 74 = .ok (.sipush 880, 3) := by decide +kernel
theorem d2_77 : decode method_3_code 77 = .ok (.sipush 893, 3) := by decide +kernel
theorem d2_80 : decode method_3_code 80 = .ok (.invokestatic 7, 3) := by decide +kernel
theorem d2_83 : decode method_3_code 83 = .ok (.ifCond .ne 100, 3) := by decide +kernel
theorem d2_86 : decode method_3_code 86 = .ok (.iload_n 0, 1) := by decide +kernel
theorem d2_87 : decode method_3_code 87 = .ok (.sipush 895, 3) := by decide +kernel
theorem d2_90 : decode method_3_code 90 = .ok (.sipush 8191, 3) := by decide +kernel
theorem d2_93 : decode method_3_code 93 = .ok (.invokestatic 7, 3) := by decide +kernel
theorem d2_96 : decode method_3_code 96 = .ok (.ifCond .ne 87, 3) := by decide +kernel
theorem d2_99 : decode method_3_code 99 = .ok (.iload_n 0, 1) := by decide +kernel
theorem d2_100 : decode method_3_code 100 = .ok (.sipush 8204, 3) := by decide +kernel
theorem d2_103 : decode method_3_code 103 = .ok (.sipush 8205, 3) := by decide +kernel
theorem d2_106 : decode method_3_code 106 = .ok (.invokestatic 7, 3) := by decide +kernel
theorem d2_109 : decode method_3_code 109 = .ok (.ifCond .ne 74, 3) := by decide +kernel
theorem d2_112 : decode method_3_code 112 = .ok (.iload_n 0, 1) := by decide +kernel
theorem d2_113 : decode method_3_code 113 = .ok (.sipush 8304, 3) := by decide +kernel
theorem d2_116 : decode method_3_code 116 = .ok (.sipush 8591, 3) := by decide +kernel
theorem d2_119 : decode method_3_code 119 = .ok (.invokestatic 7, 3) := by decide +kernel
theorem d2_122 : decode method_3_code 122 = .ok (.ifCond .ne 61, 3) := by decide +kernel
theorem d2_125 : decode method_3_code 125 = .ok (.iload_n 0, 1) := by decide +kernel
theorem d2_126 : decode method_3_code 126 = .ok (.sipush 11264, 3) := by decide +kernel
theorem d2_129 : decode method_3_code 129 = .ok (.sipush 12271, 3) := by decide +kernel
theorem d2_132 : decode method_3_code 132 = .ok (.invokestatic 7, 3) := by decide +kernel
theorem d2_135 : decode method_3_code 135 = .ok (.ifCond .ne 48, 3) := by decide +kernel
theorem d2_138 : decode method_3_code 138 = .ok (.iload_n 0, 1) := by decide +kernel
theorem d2_139 : decode method_3_code 139 = .ok (.sipush 12289, 3) := by decide +kernel
theorem d2_142 : decode method_3_code 142 = .ok (.ldc 13, 2) := by decide +kernel
theorem d2_144 : decode method_3_code 144 = .ok (.invokestatic 7, 3) := by decide +kernel
theorem d2_147 : decode method_3_code 147 = .ok (.ifCond .ne 36, 3) := by decide +kernel
theorem d2_150 : decode method_3_code 150 = .ok (.iload_n 0, 1) := by decide +kernel
theorem d2_151 : decode method_3_code 151 = .ok (.ldc 14, 2) := by decide +kernel
theorem d2_153 : decode method_3_code 153 = .ok (.ldc 15, 2) := by decide +kernel
theorem d2_155 : decode method_3_code 155 = .ok (.invokestatic 7, 3) := by decide +kernel
theorem d2_158 : decode method_3_code 158 = .ok (.ifCond .ne 25, 3) := by decide +kernel
theorem d2_161 : decode method_3_code 161 = .ok (.iload_n 0, 1) := by decide +kernel
theorem d2_162 : decode method_3_code 162 = .ok (.ldc 16, 2) := by decide +kernel
theorem d2_164 : decode method_3_code 164 = .ok (.ldc 17, 2) := by decide +kernel
theorem d2_166 : decode method_3_code 166 = .ok (.invokestatic 7, 3) := by decide +kernel
theorem d2_169 : decode method_3_code 169 = .ok (.ifCond .ne 14, 3) := by decide +kernel
theorem d2_172 : decode method_3_code 172 = .ok (.iload_n 0, 1) := by decide +kernel
theorem d2_173 : decode method_3_code 173 = .ok (.ldc 18, 2) := by decide +kernel
theorem d2_175 : decode method_3_code 175 = .ok (.ldc 19, 2) := by decide +kernel
theorem d2_177 : decode method_3_code 177 = .ok (.invokestatic 7, 3) := by decide +kernel
theorem d2_180 : decode method_3_code 180 = .ok (.ifCond .eq 7, 3) := by decide +kernel
theorem d2_183 : decode method_3_code 183 = .ok (.iconst 1, 1) := by decide +kernel
theorem d2_184 : decode method_3_code 184 = .ok (.goto 4, 3) := by decide +kernel
theorem d2_187 : decode method_3_code 187 = .ok (.iconst 0, 1) := by decide +kernel
theorem d2_188 : decode method_3_code 188 = .ok (.ireturn, 1) := by decide +kernel
theorem pn_2 : plainName "com/example/mendmark/mendmark/core/XmlCharsIsNameStartPinLaw" = true := by first | (simp [plainName, overriddenIn]; done) | decide +kernel
theorem pd_0 : parseMethodDescriptor "(III)Z" = some ⟨[.int, .int, .int], some .boolean⟩ := by decide +kernel
theorem ef_2 (m : MethodId) (p1 : Int32) : entryFrame m #[(.int p1)] 1 = mkF m 0 #[iv p1] [] := by first | (simp [entryFrame, mkF, argsToLocals, Value.category]; done) | rfl
def f2 (p1 : Int32)  : Int32 := (if p1 = (58 : Int32) then (1 : Int32) else (if p1 = (95 : Int32) then (1 : Int32) else (if (f3 p1 (65 : Int32) (90 : Int32)) = (0 : Int32) then (if (f3 p1 (97 : Int32) (122 : Int32)) = (0 : Int32) then (if (f3 p1 (192 : Int32) (214 : Int32)) = (0 : Int32) then (if (f3 p1 (216 : Int32) (246 : Int32)) = (0 : Int32) then (if (f3 p1 (248 : Int32) (767 : Int32)) = (0 : Int32) then (if (f3 p1 (880 : Int32) (893 : Int32)) = (0 : Int32) then (if (f3 p1 (895 : Int32) (8191 : Int32)) = (0 : Int32) then (if (f3 p1 (8204 : Int32) (8205 : Int32)) = (0 : Int32) then (if (f3 p1 (8304 : Int32) (8591 : Int32)) = (0 : Int32) then (if (f3 p1 (11264 : Int32) (12271 : Int32)) = (0 : Int32) then (if (f3 p1 (12289 : Int32) (55295 : Int32)) = (0 : Int32) then (if (f3 p1 (63744 : Int32) (64975 : Int32)) = (0 : Int32) then (if (f3 p1 (65008 : Int32) (65533 : Int32)) = (0 : Int32) then (if (f3 p1 (65536 : Int32) (983039 : Int32)) = (0 : Int32) then (0 : Int32) else (1 : Int32)) else (1 : Int32)) else (1 : Int32)) else (1 : Int32)) else (1 : Int32)) else (1 : Int32)) else (1 : Int32)) else (1 : Int32)) else (1 : Int32)) else (1 : Int32)) else (1 : Int32)) else (1 : Int32)) else (1 : Int32)) else (1 : Int32))))
set_option maxRecDepth 65536 in
set_option maxHeartbeats 40000000 in
theorem rm2 (l : Launch) (Z : State) (a0 : Array Value) (hw : ∀ d ∈ tables_1, d.before a0 Z = true) (ws : List Jvm.Cond) (p1 : Int32)  (h0 : Heap) (n0 : Nat) (Z0 : n0 ≤ h0.size)  :
    MetFree l (⟨"com/example/mendmark/mendmark/core/XmlCharsIsNameStartPinLaw", "reference", "(I)Z"⟩ : MethodName) (head1 (Jvm.Cond.code (⟨"com/example/mendmark/mendmark/core/XmlCharsIsNameStartPinLaw", "reference", "(I)Z"⟩ : MethodName) method_3_code 1 (some .boolean) :: ws) ({ frames := 1, cells := 0, slots := 0, locals := 14 } : Room)) (fun a U => a = #[(.int p1)] ∧ Z.Warmed39 U.vm ∧ U.heap = h0) (fun _ _ _ _ _ => True) (fun _ U o U' => ∃ v L, o = .returned v ∧ QI (f2 p1) h0 n0 v U'.heap L ∧ FrameEnd U o U' L ({ frames := 1, cells := 0, slots := 0, locals := 14 } : Room).cells ({ frames := 1, cells := 0, slots := 0, locals := 14 } : Room).slots) := by
  refine MetFree.of_bodySF (plainFor_of_name pn_2) hisR ?_
  intro p e s m args below meth c s₁ Bd hml0 hP hK
  obtain ⟨rfl, hZ, hh⟩ := hP
  have hx := Bd.exec
  have hby := Bd.bytes
  have hml : c.maxLocals = 1 := hml0
  have hown : s.vm.findClass "com/example/mendmark/mendmark/core/XmlCharsIsNameStartPinLaw" = some m.cls := findClass_of_methodNamed Bd.named
  have hnm := (name_of_methodNamed Bd.named Bd.method).1
  have X0 : Stand p l e ({ frames := 1, cells := 0, slots := 0, locals := 14 } : Room) s m #[(.int p1)] below meth c s₁ [] 0 0 := Stand.of_body Bd
  have e0 : s₁.heap = h0 := by rw [← hh, Bd.state]; rfl
  have N0 := Fr.nil n0
  obtain ⟨B, hB, pre0⟩ : ∃ B : State → Prop, (∀ t, B t → Steps p.tables e below (s₁.setTop (entryFrame m #[(.int p1)] 1)) t) ∧ ∀ t, SS p e below m s₁ 0 #[iv p1] [] t → B t := ⟨_, fun _ q => q, fun t kk => castTop (ef_2 m p1) kk⟩
  have pre1 : ∀ t, SS p e below m s₁ 3 #[iv p1] [(.int (58 : Int32)), (.int p1)] t → B t := fun t kk => pre0 t (by
    show SS p e below m s₁ 0 #[iv p1] [] _
    refine XS.iloadN X0.here hx rfl (hb hby d2_0) rfl ?_
    show SS p e below m s₁ 1 #[iv p1] [(.int p1)] _
    refine XS.bipush X0.here hx rfl (hb hby d2_1) ?_
    show SS p e below m s₁ 3 #[iv p1] [(.int (58 : Int32)), (.int p1)] _
    exact kk)
  by_cases hc2 : p1 = (58 : Int32)
  · have pre3 : ∀ t, SS p e below m s₁ 188 #[iv p1] [(.int (1 : Int32))] t → B t := fun t kk => pre1 t (by
      refine XS.icmpYes X0.here hx rfl (pc0 := 3) (pc' := 183) rfl (hb hby d2_3) rfl (teq hc2).1 (by decide) (by decide) ?_
      show SS p e below m s₁ 183 #[iv p1] [] _
      refine XS.iconst X0.here hx rfl (hb hby d2_183) ?_
      show SS p e below m s₁ 184 #[iv p1] [(.int (1 : Int32))] _
      refine XS.goto X0.here hx rfl (pc0 := 184) (pc' := 188) rfl (hb hby d2_184) (by decide) (by decide) ?_
      show SS p e below m s₁ 188 #[iv p1] [(.int (1 : Int32))] _
      exact kk)
    obtain ⟨fs, hr, hrun, hended, hW, hsame⟩ := X0.leave (v := some (.int (1 : Int32))) (fun h => by rw [Bd.returns] at h; cases h)
    refine ⟨_, _, hB _ (pre3 _ ?_), hrun, hended, _, _, rfl, ?_, ⟨_, rfl⟩, hW, hsame.mono (by decide) (by decide)⟩
    · exact retN X0 hx (t := .boolean) Bd.returns (by simp) (hb hby d2_188) hr
    · exact ⟨by show _ = some (Value.int (f2 p1)); rw [f2, if_pos hc2], N0, e0⟩
  · have pre4 : ∀ t, SS p e below m s₁ 9 #[iv p1] [(.int (95 : Int32)), (.int p1)] t → B t := fun t kk => pre1 t (by
      refine XS.icmpNo X0.here hx rfl (hb hby d2_3) rfl (feq hc2).1 ?_
      show SS p e below m s₁ 6 #[iv p1] [] _
      refine XS.iloadN X0.here hx rfl (hb hby d2_6) rfl ?_
      show SS p e below m s₁ 7 #[iv p1] [(.int p1)] _
      refine XS.bipush X0.here hx rfl (hb hby d2_7) ?_
      show SS p e below m s₁ 9 #[iv p1] [(.int (95 : Int32)), (.int p1)] _
      exact kk)
    by_cases hc5 : p1 = (95 : Int32)
    · have pre6 : ∀ t, SS p e below m s₁ 188 #[iv p1] [(.int (1 : Int32))] t → B t := fun t kk => pre4 t (by
        refine XS.icmpYes X0.here hx rfl (pc0 := 9) (pc' := 183) rfl (hb hby d2_9) rfl (teq hc5).1 (by decide) (by decide) ?_
        show SS p e below m s₁ 183 #[iv p1] [] _
        refine XS.iconst X0.here hx rfl (hb hby d2_183) ?_
        show SS p e below m s₁ 184 #[iv p1] [(.int (1 : Int32))] _
        refine XS.goto X0.here hx rfl (pc0 := 184) (pc' := 188) rfl (hb hby d2_184) (by decide) (by decide) ?_
        show SS p e below m s₁ 188 #[iv p1] [(.int (1 : Int32))] _
        exact kk)
      obtain ⟨fs, hr, hrun, hended, hW, hsame⟩ := X0.leave (v := some (.int (1 : Int32))) (fun h => by rw [Bd.returns] at h; cases h)
      refine ⟨_, _, hB _ (pre6 _ ?_), hrun, hended, _, _, rfl, ?_, ⟨_, rfl⟩, hW, hsame.mono (by decide) (by decide)⟩
      · exact retN X0 hx (t := .boolean) Bd.returns (by simp) (hb hby d2_188) hr
      · exact ⟨by show _ = some (Value.int (f2 p1)); rw [f2, if_neg hc2, if_pos hc5], N0, e0⟩
    · have pre7 : ∀ t, SS p e below m s₁ 17 #[iv p1] [(.int (90 : Int32)), (.int (65 : Int32)), (.int p1)] t → B t := fun t kk => pre4 t (by
        refine XS.icmpNo X0.here hx rfl (hb hby d2_9) rfl (feq hc5).1 ?_
        show SS p e below m s₁ 12 #[iv p1] [] _
        refine XS.iloadN X0.here hx rfl (hb hby d2_12) rfl ?_
        show SS p e below m s₁ 13 #[iv p1] [(.int p1)] _
        refine XS.bipush X0.here hx rfl (hb hby d2_13) ?_
        show SS p e below m s₁ 15 #[iv p1] [(.int (65 : Int32)), (.int p1)] _
        refine XS.bipush X0.here hx rfl (hb hby d2_15) ?_
        show SS p e below m s₁ 17 #[iv p1] [(.int (90 : Int32)), (.int (65 : Int32)), (.int p1)] _
        exact kk)
      obtain ⟨_, _, ⟨T8, L8, k8, n8⟩, -, X8, ⟨Lc8, hQ8, l8, y8, z8⟩, st8⟩ := Jvm.LawKit.callS X0 hx (y := (⟨"com/example/mendmark/mendmark/core/XmlCharsIsNameStartPinLaw", "in", "(III)Z"⟩ : MethodName)) hown (mvT hZ (hw _ (List.mem_of_getElem? (i := 22) rfl))) (mvT hZ (hw _ (List.mem_of_getElem? (i := 23) rfl))) (mvT hZ (hw _ (List.mem_of_getElem? (i := 20) rfl))) (mvT hZ (hw _ (List.mem_of_getElem? (i := 24) rfl))) (by decide) (backOf (W := 0) (rm3 l Z a0 hw [] p1 (65 : Int32) (90 : Int32) h0 n0 Z0 ) hZ (hw _ (List.mem_of_getElem? (i := 24) rfl)) (hw _ (List.mem_of_getElem? (i := 20) rfl)) (by decide) (by decide)) (g := (mkF m 17 #[iv p1] [(.int (90 : Int32)), (.int (65 : Int32)), (.int p1)])) rfl (by rw [hml]; rfl) (argsL := [(.int p1), (.int (65 : Int32)), (.int (90 : Int32))]) (rest := []) (lenOf pd_0 rfl) rfl (by show 2 * 0 + _ ≤ _; exact Nat.le_of_eq rfl) (hb hby d2_17) (fun _ _ => ⟨rfl, e0, (by decide : 0 + 0 ≤ _), (by decide : 0 + 0 ≤ _)⟩)
      dsimp only [Pt.U, Pt.locs, Pt.cells, Pt.slots] at X8 l8 y8 z8 st8 hQ8
      subst l8 y8 z8
      obtain ⟨rfl, N8q, e8⟩ := hQ8
      have N8 := Fr.app N0 N8q
      have pre9 : ∀ t, SS p e below m T8 20 #[iv p1] [(.int (f3 p1 (65 : Int32) (90 : Int32)))] t → B t := fun t kk => pre7 t (by
        refine st8 _ ?_
        show SS p e below m T8 20 #[iv p1] [(.int (f3 p1 (65 : Int32) (90 : Int32)))] _
        exact kk)
      by_cases hc10 : (f3 p1 (65 : Int32) (90 : Int32)) = (0 : Int32)
      · have pre11 : ∀ t, SS p e below m T8 28 #[iv p1] [(.int (122 : Int32)), (.int (97 : Int32)), (.int p1)] t → B t := fun t kk => pre9 t (by
          refine XS.ifNo X8.here hx rfl (hb hby d2_20) rfl ((if0 _ _).trans (teq hc10).2) ?_
          show SS p e below m T8 23 #[iv p1] [] _
          refine XS.iloadN X8.here hx rfl (hb hby d2_23) rfl ?_
          show SS p e below m T8 24 #[iv p1] [(.int p1)] _
          refine XS.bipush X8.here hx rfl (hb hby d2_24) ?_
          show SS p e below m T8 26 #[iv p1] [(.int (97 : Int32)), (.int p1)] _
          refine XS.bipush X8.here hx rfl (hb hby d2_26) ?_
          show SS p e below m T8 28 #[iv p1] [(.int (122 : Int32)), (.int (97 : Int32)), (.int p1)] _
          exact kk)
        obtain ⟨_, _, ⟨T12, L12, k12, n12⟩, -, X12, ⟨Lc12, hQ12, l12, y12, z12⟩, st12⟩ := Jvm.LawKit.callS X8 hx (y := (⟨"com/example/mendmark/mendmark/core/XmlCharsIsNameStartPinLaw", "in", "(III)Z"⟩ : MethodName)) hown (mvT hZ (hw _ (List.mem_of_getElem? (i := 22) rfl))) (mvT hZ (hw _ (List.mem_of_getElem? (i := 23) rfl))) (mvT hZ (hw _ (List.mem_of_getElem? (i := 20) rfl))) (mvT hZ (hw _ (List.mem_of_getElem? (i := 24) rfl))) (by decide) (backOf (W := 0) (rm3 l Z a0 hw [] p1 (97 : Int32) (122 : Int32) h0 n0 Z0 ) hZ (hw _ (List.mem_of_getElem? (i := 24) rfl)) (hw _ (List.mem_of_getElem? (i := 20) rfl)) (by decide) (by decide)) (g := (mkF m 28 #[iv p1] [(.int (122 : Int32)), (.int (97 : Int32)), (.int p1)])) rfl (by rw [hml]; rfl) (argsL := [(.int p1), (.int (97 : Int32)), (.int (122 : Int32))]) (rest := []) (lenOf pd_0 rfl) rfl (by show 2 * 0 + _ ≤ _; exact Nat.le_of_eq rfl) (hb hby d2_28) (fun _ _ => ⟨rfl, e8, (by decide : 0 + 0 ≤ _), (by decide : 0 + 0 ≤ _)⟩)
        dsimp only [Pt.U, Pt.locs, Pt.cells, Pt.slots] at X12 l12 y12 z12 st12 hQ12
        subst l12 y12 z12
        obtain ⟨rfl, N12q, e12⟩ := hQ12
        have N12 := Fr.app N8 N12q
        have pre13 : ∀ t, SS p e below m T12 31 #[iv p1] [(.int (f3 p1 (97 : Int32) (122 : Int32)))] t → B t := fun t kk => pre11 t (by
          refine st12 _ ?_
          show SS p e below m T12 31 #[iv p1] [(.int (f3 p1 (97 : Int32) (122 : Int32)))] _
          exact kk)
        by_cases hc14 : (f3 p1 (97 : Int32) (122 : Int32)) = (0 : Int32)
        · have pre15 : ∀ t, SS p e below m T12 41 #[iv p1] [(.int (214 : Int32)), (.int (192 : Int32)), (.int p1)] t → B t := fun t kk => pre13 t (by
            refine XS.ifNo X12.here hx rfl (hb hby d2_31) rfl ((if0 _ _).trans (teq hc14).2) ?_
            show SS p e below m T12 34 #[iv p1] [] _
            refine XS.iloadN X12.here hx rfl (hb hby d2_34) rfl ?_
            show SS p e below m T12 35 #[iv p1] [(.int p1)] _
            refine XS.sipush X12.here hx rfl (hb hby d2_35) ?_
            show SS p e below m T12 38 #[iv p1] [(.int (192 : Int32)), (.int p1)] _
            refine XS.sipush X12.here hx rfl (hb hby d2_38) ?_
            show SS p e below m T12 41 #[iv p1] [(.int (214 : Int32)), (.int (192 : Int32)), (.int p1)] _
            exact kk)
          obtain ⟨_, _, ⟨T16, L16, k16, n16⟩, -, X16, ⟨Lc16, hQ16, l16, y16, z16⟩, st16⟩ := Jvm.LawKit.callS X12 hx (y := (⟨"com/example/mendmark/mendmark/core/XmlCharsIsNameStartPinLaw", "in", "(III)Z"⟩ : MethodName)) hown (mvT hZ (hw _ (List.mem_of_getElem? (i := 22) rfl))) (mvT hZ (hw _ (List.mem_of_getElem? (i := 23) rfl))) (mvT hZ (hw _ (List.mem_of_getElem? (i := 20) rfl))) (mvT hZ (hw _ (List.mem_of_getElem? (i := 24) rfl))) (by decide) (backOf (W := 0) (rm3 l Z a0 hw [] p1 (192 : Int32) (214 : Int32) h0 n0 Z0 ) hZ (hw _ (List.mem_of_getElem? (i := 24) rfl)) (hw _ (List.mem_of_getElem? (i := 20) rfl)) (by decide) (by decide)) (g := (mkF m 41 #[iv p1] [(.int (214 : Int32)), (.int (192 : Int32)), (.int p1)])) rfl (by rw [hml]; rfl) (argsL := [(.int p1), (.int (192 : Int32)), (.int (214 : Int32))]) (rest := []) (lenOf pd_0 rfl) rfl (by show 2 * 0 + _ ≤ _; exact Nat.le_of_eq rfl) (hb hby d2_41) (fun _ _ => ⟨rfl, e12, (by decide : 0 + 0 ≤ _), (by decide : 0 + 0 ≤ _)⟩)
          dsimp only [Pt.U, Pt.locs, Pt.cells, Pt.slots] at X16 l16 y16 z16 st16 hQ16
          subst l16 y16 z16
          obtain ⟨rfl, N16q, e16⟩ := hQ16
          have N16 := Fr.app N12 N16q
          have pre17 : ∀ t, SS p e below m T16 44 #[iv p1] [(.int (f3 p1 (192 : Int32) (214 : Int32)))] t → B t := fun t kk => pre15 t (by
            refine st16 _ ?_
            show SS p e below m T16 44 #[iv p1] [(.int (f3 p1 (192 : Int32) (214 : Int32)))] _
            exact kk)
          by_cases hc18 : (f3 p1 (192 : Int32) (214 : Int32)) = (0 : Int32)
          · have pre19 : ∀ t, SS p e below m T16 54 #[iv p1] [(.int (246 : Int32)), (.int (216 : Int32)), (.int p1)] t → B t := fun t kk => pre17 t (by
              refine XS.ifNo X16.here hx rfl (hb hby d2_44) rfl ((if0 _ _).trans (teq hc18).2) ?_
              show SS p e below m T16 47 #[iv p1] [] _
              refine XS.iloadN X16.here hx rfl (hb hby d2_47) rfl ?_
              show SS p e below m T16 48 #[iv p1] [(.int p1)] _
              refine XS.sipush X16.here hx rfl (hb hby d2_48) ?_
              show SS p e below m T16 51 #[iv p1] [(.int (216 : Int32)), (.int p1)] _
              refine XS.sipush X16.here hx rfl (hb hby d2_51) ?_
              show SS p e below m T16 54 #[iv p1] [(.int (246 : Int32)), (.int (216 : Int32)), (.int p1)] _
              exact kk)
            obtain ⟨_, _, ⟨T20, L20, k20, n20⟩, -, X20, ⟨Lc20, hQ20, l20, y20, z20⟩, st20⟩ := Jvm.LawKit.callS X16 hx (y := (⟨"com/example/mendmark/mendmark/core/XmlCharsIsNameStartPinLaw", "in", "(III)Z"⟩ : MethodName)) hown (mvT hZ (hw _ (List.mem_of_getElem? (i := 22) rfl))) (mvT hZ (hw _ (List.mem_of_getElem? (i := 23) rfl))) (mvT hZ (hw _ (List.mem_of_getElem? (i := 20) rfl))) (mvT hZ (hw _ (List.mem_of_getElem? (i := 24) rfl))) (by decide) (backOf (W := 0) (rm3 l Z a0 hw [] p1 (216 : Int32) (246 : Int32) h0 n0 Z0 ) hZ (hw _ (List.mem_of_getElem? (i := 24) rfl)) (hw _ (List.mem_of_getElem? (i := 20) rfl)) (by decide) (by decide)) (g := (mkF m 54 #[iv p1] [(.int (246 : Int32)), (.int (216 : Int32)), (.int p1)])) rfl (by rw [hml]; rfl) (argsL := [(.int p1), (.int (216 : Int32)), (.int (246 : Int32))]) (rest := []) (lenOf pd_0 rfl) rfl (by show 2 * 0 + _ ≤ _; exact Nat.le_of_eq rfl) (hb hby d2_54) (fun _ _ => ⟨rfl, e16, (by decide : 0 + 0 ≤ _), (by decide : 0 + 0 ≤ _)⟩)
            dsimp only [Pt.U, Pt.locs, Pt.cells, Pt.slots] at X20 l20 y20 z20 st20 hQ20
            subst l20 y20 z20
            obtain ⟨rfl, N20q, e20⟩ := hQ20
            have N20 := Fr.app N16 N20q
            have pre21 : ∀ t, SS p e below m T20 57 #[iv p1] [(.int (f3 p1 (216 : Int32) (246 : Int32)))] t → B t := fun t kk => pre19 t (by
              refine st20 _ ?_
              show SS p e below m T20 57 #[iv p1] [(.int (f3 p1 (216 : Int32) (246 : Int32)))] _
              exact kk)
            by_cases hc22 : (f3 p1 (216 : Int32) (246 : Int32)) = (0 : Int32)
            · have pre23 : ∀ t, SS p e below m T20 67 #[iv p1] [(.int (767 : Int32)), (.int (248 : Int32)), (.int p1)] t → B t := fun t kk => pre21 t (by
                refine XS.ifNo X20.here hx rfl (hb hby d2_57) rfl ((if0 _ _).trans (teq hc22).2) ?_
                show SS p e below m T20 60 #[iv p1] [] _
                refine XS.iloadN X20.here hx rfl (hb hby d2_60) rfl ?_
                show SS p e below m T20 61 #[iv p1] [(.int p1)] _
                refine XS.sipush X20.here hx rfl (hb hby d2_61) ?_
                show SS p e below m T20 64 #[iv p1] [(.int (248 : Int32)), (.int p1)] _
                refine XS.sipush X20.here hx rfl (hb hby d2_64) ?_
                show SS p e below m T20 67 #[iv p1] [(.int (767 : Int32)), (.int (248 : Int32)), (.int p1)] _
                exact kk)
              obtain ⟨_, _, ⟨T24, L24, k24, n24⟩, -, X24, ⟨Lc24, hQ24, l24, y24, z24⟩, st24⟩ := Jvm.LawKit.callS X20 hx (y := (⟨"com/example/mendmark/mendmark/core/XmlCharsIsNameStartPinLaw", "in", "(III)Z"⟩ : MethodName)) hown (mvT hZ (hw _ (List.mem_of_getElem? (i := 22) rfl))) (mvT hZ (hw _ (List.mem_of_getElem? (i := 23) rfl))) (mvT hZ (hw _ (List.mem_of_getElem? (i := 20) rfl))) (mvT hZ (hw _ (List.mem_of_getElem? (i := 24) rfl))) (by decide) (backOf (W := 0) (rm3 l Z a0 hw [] p1 (248 : Int32) (767 : Int32) h0 n0 Z0 ) hZ (hw _ (List.mem_of_getElem? (i := 24) rfl)) (hw _ (List.mem_of_getElem? (i := 20) rfl)) (by decide) (by decide)) (g := (mkF m 67 #[iv p1] [(.int (767 : Int32)), (.int (248 : Int32)), (.int p1)])) rfl (by rw [hml]; rfl) (argsL := [(.int p1), (.int (248 : Int32)), (.int (767 : Int32))]) (rest := []) (lenOf pd_0 rfl) rfl (by show 2 * 0 + _ ≤ _; exact Nat.le_of_eq rfl) (hb hby d2_67) (fun _ _ => ⟨rfl, e20, (by decide : 0 + 0 ≤ _), (by decide : 0 + 0 ≤ _)⟩)
              dsimp only [Pt.U, Pt.locs, Pt.cells, Pt.slots] at X24 l24 y24 z24 st24 hQ24
              subst l24 y24 z24
              obtain ⟨rfl, N24q, e24⟩ := hQ24
              have N24 := Fr.app N20 N24q
              have pre25 : ∀ t, SS p e below m T24 70 #[iv p1] [(.int (f3 p1 (248 : Int32) (767 : Int32)))] t → B t := fun t kk => pre23 t (by
                refine st24 _ ?_
                show SS p e below m T24 70 #[iv p1] [(.int (f3 p1 (248 : Int32) (767 : Int32)))] _
                exact kk)
              by_cases hc26 : (f3 p1 (248 : Int32) (767 : Int32)) = (0 : Int32)
              · have pre27 : ∀ t, SS p e below m T24 80 #[iv p1] [(.int (893 : Int32)), (.int (880 : Int32)), (.int p1)] t → B t := fun t kk => pre25 t (by
                  refine XS.ifNo X24.here hx rfl (hb hby d2_70) rfl ((if0 _ _).trans (teq hc26).2) ?_
                  show SS p e below m T24 73 #[iv p1] [] _
                  refine XS.iloadN X24.here hx rfl (hb hby d2_73) rfl ?_
                  show SS p e below m T24 74 #[iv p1] [(.int p1)] _
                  refine XS.sipush X24.here hx rfl (hb hby d2_74) ?_
                  show SS p e below m T24 77 #[iv p1] [(.int (880 : Int32)), (.int p1)] _
                  refine XS.sipush X24.here hx rfl (hb hby d2_77) ?_
                  show SS p e below m T24 80 #[iv p1] [(.int (893 : Int32)), (.int (880 : Int32)), (.int p1)] _
                  exact kk)
                obtain ⟨_, _, ⟨T28, L28, k28, n28⟩, -, X28, ⟨Lc28, hQ28, l28, y28, z28⟩, st28⟩ := Jvm.LawKit.callS X24 hx (y := (⟨"com/example/mendmark/mendmark/core/XmlCharsIsNameStartPinLaw", "in", "(III)Z"⟩ : MethodName)) hown (mvT hZ (hw _ (List.mem_of_getElem? (i := 22) rfl))) (mvT hZ (hw _ (List.mem_of_getElem? (i := 23) rfl))) (mvT hZ (hw _ (List.mem_of_getElem? (i := 20) rfl))) (mvT hZ (hw _ (List.mem_of_getElem? (i := 24) rfl))) (by decide) (backOf (W := 0) (rm3 l Z a0 hw [] p1 (880 : Int32) (893 : Int32) h0 n0 Z0 ) hZ (hw _ (List.mem_of_getElem? (i := 24) rfl)) (hw _ (List.mem_of_getElem? (i := 20) rfl)) (by decide) (by decide)) (g := (mkF m 80 #[iv p1] [(.int (893 : Int32)), (.int (880 : Int32)), (.int p1)])) rfl (by rw [hml]; rfl) (argsL := [(.int p1), (.int (880 : Int32)), (.int (893 : Int32))]) (rest := []) (lenOf pd_0 rfl) rfl (by show 2 * 0 + _ ≤ _; exact Nat.le_of_eq rfl) (hb hby d2_80) (fun _ _ => ⟨rfl, e24, (by decide : 0 + 0 ≤ _), (by decide : 0 + 0 ≤ _)⟩)
                dsimp only [Pt.U, Pt.locs, Pt.cells, Pt.slots] at X28 l28 y28 z28 st28 hQ28
                subst l28 y28 z28
                obtain ⟨rfl, N28q, e28⟩ := hQ28
                have N28 := Fr.app N24 N28q
                have pre29 : ∀ t, SS p e below m T28 83 #[iv p1] [(.int (f3 p1 (880 : Int32) (893 : Int32)))] t → B t := fun t kk => pre27 t (by
                  refine st28 _ ?_
                  show SS p e below m T28 83 #[iv p1] [(.int (f3 p1 (880 : Int32) (893 : Int32)))] _
                  exact kk)
                by_cases hc30 : (f3 p1 (880 : Int32) (893 : Int32)) = (0 : Int32)
                · have pre31 : ∀ t, SS p e below m T28 93 #[iv p1] [(.int (8191 : Int32)), (.int (895 : Int32)), (.int p1)] t → B t := fun t kk => pre29 t (by
                    refine XS.ifNo X28.here hx rfl (hb hby d2_83) rfl ((if0 _ _).trans (teq hc30).2) ?_
                    show SS p e below m T28 86 #[iv p1] [] _
                    refine XS.iloadN X28.here hx rfl (hb hby d2_86) rfl ?_
                    show SS p e below m T28 87 #[iv p1] [(.int p1)] _
                    refine XS.sipush X28.here hx rfl (hb hby d2_87) ?_
                    show SS p e below m T28 90 #[iv p1] [(.int (895 : Int32)), (.int p1)] _
                    refine XS.sipush X28.here hx rfl (hb hby d2_90) ?_
                    show SS p e below m T28 93 #[iv p1] [(.int (8191 : Int32)), (.int (895 : Int32)), (.int p1)] _
                    exact kk)
                  obtain ⟨_, _, ⟨T32, L32, k32, n32⟩, -, X32, ⟨Lc32, hQ32, l32, y32, z32⟩, st32⟩ := Jvm.LawKit.callS X28 hx (y := (⟨"com/example/mendmark/mendmark/core/XmlCharsIsNameStartPinLaw", "in", "(III)Z"⟩ : MethodName)) hown (mvT hZ (hw _ (List.mem_of_getElem? (i := 22) rfl))) (mvT hZ (hw _ (List.mem_of_getElem? (i := 23) rfl))) (mvT hZ (hw _ (List.mem_of_getElem? (i := 20) rfl))) (mvT hZ (hw _ (List.mem_of_getElem? (i := 24) rfl))) (by decide) (backOf (W := 0) (rm3 l Z a0 hw [] p1 (895 : Int32) (8191 : Int32) h0 n0 Z0 ) hZ (hw _ (List.mem_of_getElem? (i := 24) rfl)) (hw _ (List.mem_of_getElem? (i := 20) rfl)) (by decide) (by decide)) (g := (mkF m 93 #[iv p1] [(.int (8191 : Int32)), (.int (895 : Int32)), (.int p1)])) rfl (by rw [hml]; rfl) (argsL := [(.int p1), (.int (895 : Int32)), (.int (8191 : Int32))]) (rest := []) (lenOf pd_0 rfl) rfl (by show 2 * 0 + _ ≤ _; exact Nat.le_of_eq rfl) (hb hby d2_93) (fun _ _ => ⟨rfl, e28, (by decide : 0 + 0 ≤ _), (by decide : 0 + 0 ≤ _)⟩)
                  dsimp only [Pt.U, Pt.locs, Pt.cells, Pt.slots] at X32 l32 y32 z32 st32 hQ32
                  subst l32 y32 z32
                  obtain ⟨rfl, N32q, e32⟩ := hQ32
                  have N32 := Fr.app N28 N32q
                  have pre33 : ∀ t, SS p e below m T32 96 #[iv p1] [(.int (f3 p1 (895 : Int32) (8191 : Int32)))] t → B t := fun t kk => pre31 t (by
                    refine st32 _ ?_
                    show SS p e below m T32 96 #[iv p1] [(.int (f3 p1 (895 : Int32) (8191 : Int32)))] _
                    exact kk)
                  by_cases hc34 : (f3 p1 (895 : Int32) (8191 : Int32)) = (0 : Int32)
                  · have pre35 : ∀ t, SS p e below m T32 106 #[iv p1] [(.int (8205 : Int32)), (.int (8204 : Int32)), (.int p1)] t → B t := fun t kk => pre33 t (by
                      refine XS.ifNo X32.here hx rfl (hb hby d2_96) rfl ((if0 _ _).trans (teq hc34).2) ?_
                      show SS p e below m T32 99 #[iv p1] [] _
                      refine XS.iloadN X32.here hx rfl (hb hby d2_99) rfl ?_
                      show SS p e below m T32 100 #[iv p1] [(.int p1)] _
                      refine XS.sipush X32.here hx rfl (hb hby d2_100) ?_
                      show SS p e below m T32 103 #[iv p1] [(.int (8204 : Int32)), (.int p1)] _
                      refine XS.sipush X32.here hx rfl (hb hby d2_103) ?_
                      show SS p e below m T32 106 #[iv p1] [(.int (8205 : Int32)), (.int (8204 : Int32)), (.int p1)] _
                      exact kk)
                    obtain ⟨_, _, ⟨T36, L36, k36, n36⟩, -, X36, ⟨Lc36, hQ36, l36, y36, z36⟩, st36⟩ := Jvm.LawKit.callS X32 hx (y := (⟨"com/example/mendmark/mendmark/core/XmlCharsIsNameStartPinLaw", "in", "(III)Z"⟩ : MethodName)) hown (mvT hZ (hw _ (List.mem_of_getElem? (i := 22) rfl))) (mvT hZ (hw _ (List.mem_of_getElem? (i := 23) rfl))) (mvT hZ (hw _ (List.mem_of_getElem? (i := 20) rfl))) (mvT hZ (hw _ (List.mem_of_getElem? (i := 24) rfl))) (by decide) (backOf (W := 0) (rm3 l Z a0 hw [] p1 (8204 : Int32) (8205 : Int32) h0 n0 Z0 ) hZ (hw _ (List.mem_of_getElem? (i := 24) rfl)) (hw _ (List.mem_of_getElem? (i := 20) rfl)) (by decide) (by decide)) (g := (mkF m 106 #[iv p1] [(.int (8205 : Int32)), (.int (8204 : Int32)), (.int p1)])) rfl (by rw [hml]; rfl) (argsL := [(.int p1), (.int (8204 : Int32)), (.int (8205 : Int32))]) (rest := []) (lenOf pd_0 rfl) rfl (by show 2 * 0 + _ ≤ _; exact Nat.le_of_eq rfl) (hb hby d2_106) (fun _ _ => ⟨rfl, e32, (by decide : 0 + 0 ≤ _), (by decide : 0 + 0 ≤ _)⟩)
                    dsimp only [Pt.U, Pt.locs, Pt.cells, Pt.slots] at X36 l36 y36 z36 st36 hQ36
                    subst l36 y36 z36
                    obtain ⟨rfl, N36q, e36⟩ := hQ36
                    have N36 := Fr.app N32 N36q
                    have pre37 : ∀ t, SS p e below m T36 109 #[iv p1] [(.int (f3 p1 (8204 : Int32) (8205 : Int32)))] t → B t := fun t kk => pre35 t (by
                      refine st36 _ ?_
                      show SS p e below m T36 109 #[iv p1] [(.int (f3 p1 (8204 : Int32) (8205 : Int32)))] _
                      exact kk)
                    by_cases hc38 : (f3 p1 (8204 : Int32) (8205 : Int32)) = (0 : Int32)
                    · have pre39 : ∀ t, SS p e below m T36 119 #[iv p1] [(.int (8591 : Int32)), (.int (8304 : Int32)), (.int p1)] t → B t := fun t kk => pre37 t (by
                        refine XS.ifNo X36.here hx rfl (hb hby d2_109) rfl ((if0 _ _).trans (teq hc38).2) ?_
                        show SS p e below m T36 112 #[iv p1] [] _
                        refine XS.iloadN X36.here hx rfl (hb hby d2_112) rfl ?_
                        show SS p e below m T36 113 #[iv p1] [(.int p1)] _
                        refine XS.sipush X36.here hx rfl (hb hby d2_113) ?_
                        show SS p e below m T36 116 #[iv p1] [(.int (8304 : Int32)), (.int p1)] _
                        refine XS.sipush X36.here hx rfl (hb hby d2_116) ?_
                        show SS p e below m T36 119 #[iv p1] [(.int (8591 : Int32)), (.int (8304 : Int32)), (.int p1)] _
                        exact kk)
                      obtain ⟨_, _, ⟨T40, L40, k40, n40⟩, -, X40, ⟨Lc40, hQ40, l40, y40, z40⟩, st40⟩ := Jvm.LawKit.callS X36 hx (y := (⟨"com/example/mendmark/mendmark/core/XmlCharsIsNameStartPinLaw", "in", "(III)Z"⟩ : MethodName)) hown (mvT hZ (hw _ (List.mem_of_getElem? (i := 22) rfl))) (mvT hZ (hw _ (List.mem_of_getElem? (i := 23) rfl))) (mvT hZ (hw _ (List.mem_of_getElem? (i := 20) rfl))) (mvT hZ (hw _ (List.mem_of_getElem? (i := 24) rfl))) (by decide) (backOf (W := 0) (rm3 l Z a0 hw [] p1 (8304 : Int32) (8591 : Int32) h0 n0 Z0 ) hZ (hw _ (List.mem_of_getElem? (i := 24) rfl)) (hw _ (List.mem_of_getElem? (i := 20) rfl)) (by decide) (by decide)) (g := (mkF m 119 #[iv p1] [(.int (8591 : Int32)), (.int (8304 : Int32)), (.int p1)])) rfl (by rw [hml]; rfl) (argsL := [(.int p1), (.int (8304 : Int32)), (.int (8591 : Int32))]) (rest := []) (lenOf pd_0 rfl) rfl (by show 2 * 0 + _ ≤ _; exact Nat.le_of_eq rfl) (hb hby d2_119) (fun _ _ => ⟨rfl, e36, (by decide : 0 + 0 ≤ _), (by decide : 0 + 0 ≤ _)⟩)
                      dsimp only [Pt.U, Pt.locs, Pt.cells, Pt.slots] at X40 l40 y40 z40 st40 hQ40
                      subst l40 y40 z40
                      obtain ⟨rfl, N40q, e40⟩ := hQ40
                      have N40 := Fr.app N36 N40q
                      have pre41 : ∀ t, SS p e below m T40 122 #[iv p1] [(.int (f3 p1 (8304 : Int32) (8591 : Int32)))] t → B t := fun t kk => pre39 t (by
                        refine st40 _ ?_
                        show SS p e below m T40 122 #[iv p1] [(.int (f3 p1 (8304 : Int32) (8591 : Int32)))] _
                        exact kk)
                      by_cases hc42 : (f3 p1 (8304 : Int32) (8591 : Int32)) = (0 : Int32)
                      · have pre43 : ∀ t, SS p e below m T40 132 #[iv p1] [(.int (12271 : Int32)), (.int (11264 : Int32)), (.int p1)] t → B t := fun t kk => pre41 t (by
                          refine XS.ifNo X40.here hx rfl (hb hby d2_122) rfl ((if0 _ _).trans (teq hc42).2) ?_
                          show SS p e below m T40 125 #[iv p1] [] _
                          refine XS.iloadN X40.here hx rfl (hb hby d2_125) rfl ?_
                          show SS p e below m T40 126 #[iv p1] [(.int p1)] _
                          refine XS.sipush X40.here hx rfl (hb hby d2_126) ?_
                          show SS p e below m T40 129 #[iv p1] [(.int (11264 : Int32)), (.int p1)] _
                          refine XS.sipush X40.here hx rfl (hb hby d2_129) ?_
                          show SS p e below m T40 132 #[iv p1] [(.int (12271 : Int32)), (.int (11264 : Int32)), (.int p1)] _
                          exact kk)
                        obtain ⟨_, _, ⟨T44, L44, k44, n44⟩, -, X44, ⟨Lc44, hQ44, l44, y44, z44⟩, st44⟩ := Jvm.LawKit.callS X40 hx (y := (⟨"com/example/mendmark/mendmark/core/XmlCharsIsNameStartPinLaw", "in", "(III)Z"⟩ : MethodName)) hown (mvT hZ (hw _ (List.mem_of_getElem? (i := 22) rfl))) (mvT hZ (hw _ (List.mem_of_getElem? (i := 23) rfl))) (mvT hZ (hw _ (List.mem_of_getElem? (i := 20) rfl))) (mvT hZ (hw _ (List.mem_of_getElem? (i := 24) rfl))) (by decide) (backOf (W := 0) (rm3 l Z a0 hw [] p1 (11264 : Int32) (12271 : Int32) h0 n0 Z0 ) hZ (hw _ (List.mem_of_getElem? (i := 24) rfl)) (hw _ (List.mem_of_getElem? (i := 20) rfl)) (by decide) (by decide)) (g := (mkF m 132 #[iv p1] [(.int (12271 : Int32)), (.int (11264 : Int32)), (.int p1)])) rfl (by rw [hml]; rfl) (argsL := [(.int p1), (.int (11264 : Int32)), (.int (12271 : Int32))]) (rest := []) (lenOf pd_0 rfl) rfl (by show 2 * 0 + _ ≤ _; exact Nat.le_of_eq rfl) (hb hby d2_132) (fun _ _ => ⟨rfl, e40, (by decide : 0 + 0 ≤ _), (by decide : 0 + 0 ≤ _)⟩)
                        dsimp only [Pt.U, Pt.locs, Pt.cells, Pt.slots] at X44 l44 y44 z44 st44 hQ44
                        subst l44 y44 z44
                        obtain ⟨rfl, N44q, e44⟩ := hQ44
                        have N44 := Fr.app N40 N44q
                        have pre45 : ∀ t, SS p e below m T44 135 #[iv p1] [(.int (f3 p1 (11264 : Int32) (12271 : Int32)))] t → B t := fun t kk => pre43 t (by
                          refine st44 _ ?_
                          show SS p e below m T44 135 #[iv p1] [(.int (f3 p1 (11264 : Int32) (12271 : Int32)))] _
                          exact kk)
                        by_cases hc46 : (f3 p1 (11264 : Int32) (12271 : Int32)) = (0 : Int32)
                        · have pre47 : ∀ t, SS p e below m T44 144 #[iv p1] [(.int (55295 : Int32)), (.int (12289 : Int32)), (.int p1)] t → B t := fun t kk => pre45 t (by
                            refine XS.ifNo X44.here hx rfl (hb hby d2_135) rfl ((if0 _ _).trans (teq hc46).2) ?_
                            show SS p e below m T44 138 #[iv p1] [] _
                            refine XS.iloadN X44.here hx rfl (hb hby d2_138) rfl ?_
                            show SS p e below m T44 139 #[iv p1] [(.int p1)] _
                            refine XS.sipush X44.here hx rfl (hb hby d2_139) ?_
                            show SS p e below m T44 142 #[iv p1] [(.int (12289 : Int32)), (.int p1)] _
                            refine X44.ldcInt hx hown (mvT hZ (hw _ (List.mem_of_getElem? (i := 1) rfl))) (g := (mkF m 142 #[iv p1] [(.int (12289 : Int32)), (.int p1)])) rfl (hb hby d2_142) _ ?_
                            show SS p e below m T44 144 #[iv p1] [(.int (55295 : Int32)), (.int (12289 : Int32)), (.int p1)] _
                            exact kk)
                          obtain ⟨_, _, ⟨T48, L48, k48, n48⟩, -, X48, ⟨Lc48, hQ48, l48, y48, z48⟩, st48⟩ := Jvm.LawKit.callS X44 hx (y := (⟨"com/example/mendmark/mendmark/core/XmlCharsIsNameStartPinLaw", "in", "(III)Z"⟩ : MethodName)) hown (mvT hZ (hw _ (List.mem_of_getElem? (i := 22) rfl))) (mvT hZ (hw _ (List.mem_of_getElem? (i := 23) rfl))) (mvT hZ (hw _ (List.mem_of_getElem? (i := 20) rfl))) (mvT hZ (hw _ (List.mem_of_getElem? (i := 24) rfl))) (by decide) (backOf (W := 0) (rm3 l Z a0 hw [] p1 (12289 : Int32) (55295 : Int32) h0 n0 Z0 ) hZ (hw _ (List.mem_of_getElem? (i := 24) rfl)) (hw _ (List.mem_of_getElem? (i := 20) rfl)) (by decide) (by decide)) (g := (mkF m 144 #[iv p1] [(.int (55295 : Int32)), (.int (12289 : Int32)), (.int p1)])) rfl (by rw [hml]; rfl) (argsL := [(.int p1), (.int (12289 : Int32)), (.int (55295 : Int32))]) (rest := []) (lenOf pd_0 rfl) rfl (by show 2 * 0 + _ ≤ _; exact Nat.le_of_eq rfl) (hb hby d2_144) (fun _ _ => ⟨rfl, e44, (by decide : 0 + 0 ≤ _), (by decide : 0 + 0 ≤ _)⟩)
                          dsimp only [Pt.U, Pt.locs, Pt.cells, Pt.slots] at X48 l48 y48 z48 st48 hQ48
                          subst l48 y48 z48
                          obtain ⟨rfl, N48q, e48⟩ := hQ48
                          have N48 := Fr.app N44 N48q
                          have pre49 : ∀ t, SS p e below m T48 147 #[iv p1] [(.int (f3 p1 (12289 : Int32) (55295 : Int32)))] t → B t := fun t kk => pre47 t (by
                            refine st48 _ ?_
                            show SS p e below m T48 147 #[iv p1] [(.int (f3 p1 (12289 : Int32) (55295 : Int32)))] _
                            exact kk)
                          by_cases hc50 : (f3 p1 (12289 : Int32) (55295 : Int32)) = (0 : Int32)
                          · have pre51 : ∀ t, SS p e below m T48 155 #[iv p1] [(.int (64975 : Int32)), (.int (63744 : Int32)), (.int p1)] t → B t := fun t kk => pre49 t (by
                              refine XS.ifNo X48.here hx rfl (hb hby d2_147) rfl ((if0 _ _).trans (teq hc50).2) ?_
                              show SS p e below m T48 150 #[iv p1] [] _
                              refine XS.iloadN X48.here hx rfl (hb hby d2_150) rfl ?_
                              show SS p e below m T48 151 #[iv p1] [(.int p1)] _
                              refine X48.ldcInt hx hown (mvT hZ (hw _ (List.mem_of_getElem? (i := 3) rfl))) (g := (mkF m 151 #[iv p1] [(.int p1)])) rfl (hb hby d2_151) _ ?_
                              show SS p e below m T48 153 #[iv p1] [(.int (63744 : Int32)), (.int p1)] _
                              refine X48.ldcInt hx hown (mvT hZ (hw _ (List.mem_of_getElem? (i := 4) rfl))) (g := (mkF m 153 #[iv p1] [(.int (63744 : Int32)), (.int p1)])) rfl (hb hby d2_153) _ ?_
                              show SS p e below m T48 155 #[iv p1] [(.int (64975 : Int32)), (.int (63744 : Int32)), (.int p1)] _
                              exact kk)
                            obtain ⟨_, _, ⟨T52, L52, k52, n52⟩, -, X52, ⟨Lc52, hQ52, l52, y52, z52⟩, st52⟩ := Jvm.LawKit.callS X48 hx (y := (⟨"com/example/mendmark/mendmark/core/XmlCharsIsNameStartPinLaw", "in", "(III)Z"⟩ : MethodName)) hown (mvT hZ (hw _ (List.mem_of_getElem? (i := 22) rfl))) (mvT hZ (hw _ (List.mem_of_getElem? (i := 23) rfl))) (mvT hZ (hw _ (List.mem_of_getElem? (i := 20) rfl))) (mvT hZ (hw _ (List.mem_of_getElem? (i := 24) rfl))) (by decide) (backOf (W := 0) (rm3 l Z a0 hw [] p1 (63744 : Int32) (64975 : Int32) h0 n0 Z0 ) hZ (hw _ (List.mem_of_getElem? (i := 24) rfl)) (hw _ (List.mem_of_getElem? (i := 20) rfl)) (by decide) (by decide)) (g := (mkF m 155 #[iv p1] [(.int (64975 : Int32)), (.int (63744 : Int32)), (.int p1)])) rfl (by rw [hml]; rfl) (argsL := [(.int p1), (.int (63744 : Int32)), (.int (64975 : Int32))]) (rest := []) (lenOf pd_0 rfl) rfl (by show 2 * 0 + _ ≤ _; exact Nat.le_of_eq rfl) (hb hby d2_155) (fun _ _ => ⟨rfl, e48, (by decide : 0 + 0 ≤ _), (by decide : 0 + 0 ≤ _)⟩)
                            dsimp only [Pt.U, Pt.locs, Pt.cells, Pt.slots] at X52 l52 y52 z52 st52 hQ52
                            subst l52 y52 z52
                            obtain ⟨rfl, N52q, e52⟩ := hQ52
                            have N52 := Fr.app N48 N52q
                            have pre53 : ∀ t, SS p e below m T52 158 #[iv p1] [(.int (f3 p1 (63744 : Int32) (64975 : Int32)))] t → B t := fun t kk => pre51 t (by
                              refine st52 _ ?_
                              show SS p e below m T52 158 #[iv p1] [(.int (f3 p1 (63744 : Int32) (64975 : Int32)))] _
                              exact kk)
                            by_cases hc54 : (f3 p1 (63744 : Int32) (64975 : Int32)) = (0 : Int32)
                            · have pre55 : ∀ t, SS p e below m T52 166 #[iv p1] [(.int (65533 : Int32)), (.int (65008 : Int32)), (.int p1)] t → B t := fun t kk => pre53 t (by
                                refine XS.ifNo X52.here hx rfl (hb hby d2_158) rfl ((if0 _ _).trans (teq hc54).2) ?_
                                show SS p e below m T52 161 #[iv p1] [] _
                                refine XS.iloadN X52.here hx rfl (hb hby d2_161) rfl ?_
                                show SS p e below m T52 162 #[iv p1] [(.int p1)] _
                                refine X52.ldcInt hx hown (mvT hZ (hw _ (List.mem_of_getElem? (i := 5) rfl))) (g := (mkF m 162 #[iv p1] [(.int p1)])) rfl (hb hby d2_162) _ ?_
                                show SS p e below m T52 164 #[iv p1] [(.int (65008 : Int32)), (.int p1)] _
                                refine X52.ldcInt hx hown (mvT hZ (hw _ (List.mem_of_getElem? (i := 6) rfl))) (g := (mkF m 164 #[iv p1] [(.int (65008 : Int32)), (.int p1)])) rfl (hb hby d2_164) _ ?_
                                show SS p e below m T52 166 #[iv p1] [(.int (65533 : Int32)), (.int (65008 : Int32)), (.int p1)] _
                                exact kk)
                              obtain ⟨_, _, ⟨T56, L56, k56, n56⟩, -, X56, ⟨Lc56, hQ56, l56, y56, z56⟩, st56⟩ := Jvm.LawKit.callS X52 hx (y := (⟨"com/example/mendmark/mendmark/core/XmlCharsIsNameStartPinLaw", "in", "(III)Z"⟩ : MethodName)) hown (mvT hZ (hw _ (List.mem_of_getElem? (i := 22) rfl))) (mvT hZ (hw _ (List.mem_of_getElem? (i := 23) rfl))) (mvT hZ (hw _ (List.mem_of_getElem? (i := 20) rfl))) (mvT hZ (hw _ (List.mem_of_getElem? (i := 24) rfl))) (by decide) (backOf (W := 0) (rm3 l Z a0 hw [] p1 (65008 : Int32) (65533 : Int32) h0 n0 Z0 ) hZ (hw _ (List.mem_of_getElem? (i := 24) rfl)) (hw _ (List.mem_of_getElem? (i := 20) rfl)) (by decide) (by decide)) (g := (mkF m 166 #[iv p1] [(.int (65533 : Int32)), (.int (65008 : Int32)), (.int p1)])) rfl (by rw [hml]; rfl) (argsL := [(.int p1), (.int (65008 : Int32)), (.int (65533 : Int32))]) (rest := []) (lenOf pd_0 rfl) rfl (by show 2 * 0 + _ ≤ _; exact Nat.le_of_eq rfl) (hb hby d2_166) (fun _ _ => ⟨rfl, e52, (by decide : 0 + 0 ≤ _), (by decide : 0 + 0 ≤ _)⟩)
                              dsimp only [Pt.U, Pt.locs, Pt.cells, Pt.slots] at X56 l56 y56 z56 st56 hQ56
                              subst l56 y56 z56
                              obtain ⟨rfl, N56q, e56⟩ := hQ56
                              have N56 := Fr.app N52 N56q
                              have pre57 : ∀ t, SS p e below m T56 169 #[iv p1] [(.int (f3 p1 (65008 : Int32) (65533 : Int32)))] t → B t := fun t kk => pre55 t (by
                                refine st56 _ ?_
                                show SS p e below m T56 169 #[iv p1] [(.int (f3 p1 (65008 : Int32) (65533 : Int32)))] _
                                exact kk)
                              by_cases hc58 : (f3 p1 (65008 : Int32) (65533 : Int32)) = (0 : Int32)
                              · have pre59 : ∀ t, SS p e below m T56 177 #[iv p1] [(.int (983039 : Int32)), (.int (65536 : Int32)), (.int p1)] t → B t := fun t kk => pre57 t (by
                                  refine XS.ifNo X56.here hx rfl (hb hby d2_169) rfl ((if0 _ _).trans (teq hc58).2) ?_
                                  show SS p e below m T56 172 #[iv p1] [] _
                                  refine XS.iloadN X56.here hx rfl (hb hby d2_172) rfl ?_
                                  show SS p e below m T56 173 #[iv p1] [(.int p1)] _
                                  refine X56.ldcInt hx hown (mvT hZ (hw _ (List.mem_of_getElem? (i := 8) rfl))) (g := (mkF m 173 #[iv p1] [(.int p1)])) rfl (hb hby d2_173) _ ?_
                                  show SS p e below m T56 175 #[iv p1] [(.int (65536 : Int32)), (.int p1)] _
                                  refine X56.ldcInt hx hown (mvT hZ (hw _ (List.mem_of_getElem? (i := 9) rfl))) (g := (mkF m 175 #[iv p1] [(.int (65536 : Int32)), (.int p1)])) rfl (hb hby d2_175) _ ?_
                                  show SS p e below m T56 177 #[iv p1] [(.int (983039 : Int32)), (.int (65536 : Int32)), (.int p1)] _
                                  exact kk)
                                obtain ⟨_, _, ⟨T60, L60, k60, n60⟩, -, X60, ⟨Lc60, hQ60, l60, y60, z60⟩, st60⟩ := Jvm.LawKit.callS X56 hx (y := (⟨"com/example/mendmark/mendmark/core/XmlCharsIsNameStartPinLaw", "in", "(III)Z"⟩ : MethodName)) hown (mvT hZ (hw _ (List.mem_of_getElem? (i := 22) rfl))) (mvT hZ (hw _ (List.mem_of_getElem? (i := 23) rfl))) (mvT hZ (hw _ (List.mem_of_getElem? (i := 20) rfl))) (mvT hZ (hw _ (List.mem_of_getElem? (i := 24) rfl))) (by decide) (backOf (W := 0) (rm3 l Z a0 hw [] p1 (65536 : Int32) (983039 : Int32) h0 n0 Z0 ) hZ (hw _ (List.mem_of_getElem? (i := 24) rfl)) (hw _ (List.mem_of_getElem? (i := 20) rfl)) (by decide) (by decide)) (g := (mkF m 177 #[iv p1] [(.int (983039 : Int32)), (.int (65536 : Int32)), (.int p1)])) rfl (by rw [hml]; rfl) (argsL := [(.int p1), (.int (65536 : Int32)), (.int (983039 : Int32))]) (rest := []) (lenOf pd_0 rfl) rfl (by show 2 * 0 + _ ≤ _; exact Nat.le_of_eq rfl) (hb hby d2_177) (fun _ _ => ⟨rfl, e56, (by decide : 0 + 0 ≤ _), (by decide : 0 + 0 ≤ _)⟩)
                                dsimp only [Pt.U, Pt.locs, Pt.cells, Pt.slots] at X60 l60 y60 z60 st60 hQ60
                                subst l60 y60 z60
                                obtain ⟨rfl, N60q, e60⟩ := hQ60
                                have N60 := Fr.app N56 N60q
                                have pre61 : ∀ t, SS p e below m T60 180 #[iv p1] [(.int (f3 p1 (65536 : Int32) (983039 : Int32)))] t → B t := fun t kk => pre59 t (by
                                  refine st60 _ ?_
                                  show SS p e below m T60 180 #[iv p1] [(.int (f3 p1 (65536 : Int32) (983039 : Int32)))] _
                                  exact kk)
                                by_cases hc62 : (f3 p1 (65536 : Int32) (983039 : Int32)) = (0 : Int32)
                                · have pre63 : ∀ t, SS p e below m T60 188 #[iv p1] [(.int (0 : Int32))] t → B t := fun t kk => pre61 t (by
                                    refine XS.ifYes X60.here hx rfl (pc0 := 180) (pc' := 187) rfl (hb hby d2_180) rfl ((if0 _ _).trans (teq hc62).1) (by decide) (by decide) ?_
                                    show SS p e below m T60 187 #[iv p1] [] _
                                    refine XS.iconst X60.here hx rfl (hb hby d2_187) ?_
                                    show SS p e below m T60 188 #[iv p1] [(.int (0 : Int32))] _
                                    exact kk)
                                  obtain ⟨fs, hr, hrun, hended, hW, hsame⟩ := X60.leave (v := some (.int (0 : Int32))) (fun h => by rw [Bd.returns] at h; cases h)
                                  refine ⟨_, _, hB _ (pre63 _ ?_), hrun, hended, _, _, rfl, ?_, ⟨_, rfl⟩, hW, hsame.mono (by decide) (by decide)⟩
                                  · exact retN X60 hx (t := .boolean) Bd.returns (by simp) (hb hby d2_188) hr
                                  · exact ⟨by show _ = some (Value.int (f2 p1)); rw [f2, if_neg hc2, if_neg hc5, if_pos hc10, if_pos hc14, if_pos hc18, if_pos hc22, if_pos hc26, if_pos hc30, if_pos hc34, if_pos hc38, if_pos hc42, if_pos hc46, if_pos hc50, if_pos hc54, if_pos hc58, if_pos hc62], N60, e60⟩
                                · have pre64 : ∀ t, SS p e below m T60 188 #[iv p1] [(.int (1 : Int32))] t → B t := fun t kk => pre61 t (by
                                    refine XS.ifNo X60.here hx rfl (hb hby d2_180) rfl ((if0 _ _).trans (feq hc62).1) ?_
                                    show SS p e below m T60 183 #[iv p1] [] _
                                    refine XS.iconst X60.here hx rfl (hb hby d2_183) ?_
                                    show SS p e below m T60 184 #[iv p1] [(.int (1 : Int32))] _
                                    refine XS.goto X60.here hx rfl (pc0 := 184) (pc' := 188) rfl (hb hby d2_184) (by decide) (by decide) ?_
                                    show SS p e below m T60 188 #[iv p1] [(.int (1 : Int32))] _
                                    exact kk)
                                  obtain ⟨fs, hr, hrun, hended, hW, hsame⟩ := X60.leave (v := some (.int (1 : Int32))) (fun h => by rw [Bd.returns] at h; cases h)
                                  refine ⟨_, _, hB _ (pre64 _ ?_), hrun, hended, _, _, rfl, ?_, ⟨_, rfl⟩, hW, hsame.mono (by decide) (by decide)⟩
                                  · exact retN X60 hx (t := .boolean) Bd.returns (by simp) (hb hby d2_188) hr
                                  · exact ⟨by show _ = some (Value.int (f2 p1)); rw [f2, if_neg hc2, if_neg hc5, if_pos hc10, if_pos hc14, if_pos hc18, if_pos hc22, if_pos hc26, if_pos hc30, if_pos hc34, if_pos hc38, if_pos hc42, if_pos hc46, if_pos hc50, if_pos hc54, if_pos hc58, if_neg hc62], N60, e60⟩
                              · have pre65 : ∀ t, SS p e below m T56 188 #[iv p1] [(.int (1 : Int32))] t → B t := fun t kk => pre57 t (by
                                  refine XS.ifYes X56.here hx rfl (pc0 := 169) (pc' := 183) rfl (hb hby d2_169) rfl ((if0 _ _).trans (feq hc58).2) (by decide) (by decide) ?_
                                  show SS p e below m T56 183 #[iv p1] [] _
                                  refine XS.iconst X56.here hx rfl (hb hby d2_183) ?_
                                  show SS p e below m T56 184 #[iv p1] [(.int (1 : Int32))] _
                                  refine XS.goto X56.here hx rfl (pc0 := 184) (pc' := 188) rfl (hb hby d2_184) (by decide) (by decide) ?_
                                  show SS p e below m T56 188 #[iv p1] [(.int (1 : Int32))] _
                                  exact kk)
                                obtain ⟨fs, hr, hrun, hended, hW, hsame⟩ := X56.leave (v := some (.int (1 : Int32))) (fun h => by rw [Bd.returns] at h; cases h)
                                refine ⟨_, _, hB _ (pre65 _ ?_), hrun, hended, _, _, rfl, ?_, ⟨_, rfl⟩, hW, hsame.mono (by decide) (by decide)⟩
                                · exact retN X56 hx (t := .boolean) Bd.returns (by simp) (hb hby d2_188) hr
                                · exact ⟨by show _ = some (Value.int (f2 p1)); rw [f2, if_neg hc2, if_neg hc5, if_pos hc10, if_pos hc14, if_pos hc18, if_pos hc22, if_pos hc26, if_pos hc30, if_pos hc34, if_pos hc38, if_pos hc42, if_pos hc46, if_pos hc50, if_pos hc54, if_neg hc58], N56, e56⟩
                            · have pre66 : ∀ t, SS p e below m T52 188 #[iv p1] [(.int (1 : Int32))] t → B t := fun t kk => pre53 t (by
                                refine XS.ifYes X52.here hx rfl (pc0 := 158) (pc' := 183) rfl (hb hby d2_158) rfl ((if0 _ _).trans (feq hc54).2) (by decide) (by decide) ?_
                                show SS p e below m T52 183 #[iv p1] [] _
                                refine XS.iconst X52.here hx rfl (hb hby d2_183) ?_
                                show SS p e below m T52 184 #[iv p1] [(.int (1 : Int32))] _
                                refine XS.goto X52.here hx rfl (pc0 := 184) (pc' := 188) rfl (hb hby d2_184) (by decide) (by decide) ?_
                                show SS p e below m T52 188 #[iv p1] [(.int (1 : Int32))] _
                                exact kk)
                              obtain ⟨fs, hr, hrun, hended, hW, hsame⟩ := X52.leave (v := some (.int (1 : Int32))) (fun h => by rw [Bd.returns] at h; cases h)
                              refine ⟨_, _, hB _ (pre66 _ ?_), hrun, hended, _, _, rfl, ?_, ⟨_, rfl⟩, hW, hsame.mono (by decide) (by decide)⟩
                              · exact retN X52 hx (t := .boolean) Bd.returns (by simp) (hb hby d2_188) hr
                              · exact ⟨by show _ = some (Value.int (f2 p1)); rw [f2, if_neg hc2, if_neg hc5, if_pos hc10, if_pos hc14, if_pos hc18, if_pos hc22, if_pos hc26, if_pos hc30, if_pos hc34, if_pos hc38, if_pos hc42, if_pos hc46, if_pos hc50, if_neg hc54], N52, e52⟩
                          · have pre67 : ∀ t, SS p e below m T48 188 #[iv p1] [(.int (1 : Int32))] t → B t := fun t kk => pre49 t (by
                              refine XS.ifYes X48.here hx rfl (pc0 := 147) (pc' := 183) rfl (hb hby d2_147) rfl ((if0 _ _).trans (feq hc50).2) (by decide) (by decide) ?_
                              show SS p e below m T48 183 #[iv p1] [] _
                              refine XS.iconst X48.here hx rfl (hb hby d2_183) ?_
                              show SS p e below m T48 184 #[iv p1] [(.int (1 : Int32))] _
                              refine XS.goto X48.here hx rfl (pc0 := 184) (pc' := 188) rfl (hb hby d2_184) (by decide) (by decide) ?_
                              show SS p e below m T48 188 #[iv p1] [(.int (1 : Int32))] _
                              exact kk)
                            obtain ⟨fs, hr, hrun, hended, hW, hsame⟩ := X48.leave (v := some (.int (1 : Int32))) (fun h => by rw [Bd.returns] at h; cases h)
                            refine ⟨_, _, hB _ (pre67 _ ?_), hrun, hended, _, _, rfl, ?_, ⟨_, rfl⟩, hW, hsame.mono (by decide) (by decide)⟩
                            · exact retN X48 hx (t := .boolean) Bd.returns (by simp) (hb hby d2_188) hr
                            · exact ⟨by show _ = some (Value.int (f2 p1)); rw [f2, if_neg hc2, if_neg hc5, if_pos hc10, if_pos hc14, if_pos hc18, if_pos hc22, if_pos hc26, if_pos hc30, if_pos hc34, if_pos hc38, if_pos hc42, if_pos hc46, if_neg hc50], N48, e48⟩
                        · have pre68 : ∀ t, SS p e below m T44 188 #[iv p1] [(.int (1 : Int32))] t → B t := fun t kk => pre45 t (by
                            refine XS.ifYes X44.here hx rfl (pc0 := 135) (pc' := 183) rfl (hb hby d2_135) rfl ((if0 _ _).trans (feq hc46).2) (by decide) (by decide) ?_
                            show SS p e below m T44 183 #[iv p1] [] _
                            refine XS.iconst X44.here hx rfl (hb hby d2_183) ?_
                            show SS p e below m T44 184 #[iv p1] [(.int (1 : Int32))] _
                            refine XS.goto X44.here hx rfl (pc0 := 184) (pc' := 188) rfl (hb hby d2_184) (by decide) (by decide) ?_
                            show SS p e below m T44 188 #[iv p1] [(.int (1 : Int32))] _
                            exact kk)
                          obtain ⟨fs, hr, hrun, hended, hW, hsame⟩ := X44.leave (v := some (.int (1 : Int32))) (fun h => by rw [Bd.returns] at h; cases h)
                          refine ⟨_, _, hB _ (pre68 _ ?_), hrun, hended, _, _, rfl, ?_, ⟨_, rfl⟩, hW, hsame.mono (by decide) (by decide)⟩
                          · exact retN X44 hx (t := .boolean) Bd.returns (by simp) (hb hby d2_188) hr
                          · exact ⟨by show _ = some (Value.int (f2 p1)); rw [f2, if_neg hc2, if_neg hc5, if_pos hc10, if_pos hc14, if_pos hc18, if_pos hc22, if_pos hc26, if_pos hc30, if_pos hc34, if_pos hc38, if_pos hc42, if_neg hc46], N44, e44⟩
                      · have pre69 : ∀ t, SS p e below m T40 188 #[iv p1] [(.int (1 : Int32))] t → B t := fun t kk => pre41 t (by
                          refine XS.ifYes X40.here hx rfl (pc0 := 122) (pc' := 183) rfl (hb hby d2_122) rfl ((if0 _ _).trans (feq hc42).2) (by decide) (by decide) ?_
                          show SS p e below m T40 183 #[iv p1] [] _
                          refine XS.iconst X40.here hx rfl (hb hby d2_183) ?_
                          show SS p e below m T40 184 #[iv p1] [(.int (1 : Int32))] _
                          refine XS.goto X40.here hx rfl (pc0 := 184) (pc' := 188) rfl (hb hby d2_184) (by decide) (by decide) ?_
                          show SS p e below m T40 188 #[iv p1] [(.int (1 : Int32))] _
                          exact kk)
                        obtain ⟨fs, hr, hrun, hended, hW, hsame⟩ := X40.leave (v := some (.int (1 : Int32))) (fun h => by rw [Bd.returns] at h; cases h)
                        refine ⟨_, _, hB _ (pre69 _ ?_), hrun, hended, _, _, rfl, ?_, ⟨_, rfl⟩, hW, hsame.mono (by decide) (by decide)⟩
                        · exact retN X40 hx (t := .boolean) Bd.returns (by simp) (hb hby d2_188) hr
                        · exact ⟨by show _ = some (Value.int (f2 p1)); rw [f2, if_neg hc2, if_neg hc5, if_pos hc10, if_pos hc14, if_pos hc18, if_pos hc22, if_pos hc26, if_pos hc30, if_pos hc34, if_pos hc38, if_neg hc42], N40, e40⟩
                    · have pre70 : ∀ t, SS p e below m T36 188 #[iv p1] [(.int (1 : Int32))] t → B t := fun t kk => pre37 t (by
                        refine XS.ifYes X36.here hx rfl (pc0 := 109) (pc' := 183) rfl (hb hby d2_109) rfl ((if0 _ _).trans (feq hc38).2) (by decide) (by decide) ?_
                        show SS p e below m T36 183 #[iv p1] [] _
                        refine XS.iconst X36.here hx rfl (hb hby d2_183) ?_
                        show SS p e below m T36 184 #[iv p1] [(.int (1 : Int32))] _
                        refine XS.goto X36.here hx rfl (pc0 := 184) (pc' := 188) rfl (hb hby d2_184) (by decide) (by decide) ?_
                        show SS p e below m T36 188 #[iv p1] [(.int (1 : Int32))] _
                        exact kk)
                      obtain ⟨fs, hr, hrun, hended, hW, hsame⟩ := X36.leave (v := some (.int (1 : Int32))) (fun h => by rw [Bd.returns] at h; cases h)
                      refine ⟨_, _, hB _ (pre70 _ ?_), hrun, hended, _, _, rfl, ?_, ⟨_, rfl⟩, hW, hsame.mono (by decide) (by decide)⟩
                      · exact retN X36 hx (t := .boolean) Bd.returns (by simp) (hb hby d2_188) hr
                      · exact ⟨by show _ = some (Value.int (f2 p1)); rw [f2, if_neg hc2, if_neg hc5, if_pos hc10, if_pos hc14, if_pos hc18, if_pos hc22, if_pos hc26, if_pos hc30, if_pos hc34, if_neg hc38], N36, e36⟩
                  · have pre71 : ∀ t, SS p e below m T32 188 #[iv p1] [(.int (1 : Int32))] t → B t := fun t kk => pre33 t (by
                      refine XS.ifYes X32.here hx rfl (pc0 := 96) (pc' := 183) rfl (hb hby d2_96) rfl ((if0 _ _).trans (feq hc34).2) (by decide) (by decide) ?_
                      show SS p e below m T32 183 #[iv p1] [] _
                      refine XS.iconst X32.here hx rfl (hb hby d2_183) ?_
                      show SS p e below m T32 184 #[iv p1] [(.int (1 : Int32))] _
                      refine XS.goto X32.here hx rfl (pc0 := 184) (pc' := 188) rfl (hb hby d2_184) (by decide) (by decide) ?_
                      show SS p e below m T32 188 #[iv p1] [(.int (1 : Int32))] _
                      exact kk)
                    obtain ⟨fs, hr, hrun, hended, hW, hsame⟩ := X32.leave (v := some (.int (1 : Int32))) (fun h => by rw [Bd.returns] at h; cases h)
                    refine ⟨_, _, hB _ (pre71 _ ?_), hrun, hended, _, _, rfl, ?_, ⟨_, rfl⟩, hW, hsame.mono (by decide) (by decide)⟩
                    · exact retN X32 hx (t := .boolean) Bd.returns (by simp) (hb hby d2_188) hr
                    · exact ⟨by show _ = some (Value.int (f2 p1)); rw [f2, if_neg hc2, if_neg hc5, if_pos hc10, if_pos hc14, if_pos hc18, if_pos hc22, if_pos hc26, if_pos hc30, if_neg hc34], N32, e32⟩
                · have pre72 : ∀ t, SS p e below m T28 188 #[iv p1] [(.int (1 : Int32))] t → B t := fun t kk => pre29 t (by
                    refine XS.ifYes X28.here hx rfl (pc0 := 83) (pc' := 183) rfl (hb hby d2_83) rfl ((if0 _ _).trans (feq hc30).2) (by decide) (by decide) ?_
                    show SS p e below m T28 183 #[iv p1] [] _
                    refine XS.iconst X28.here hx rfl (hb hby d2_183) ?_
                    show SS p e below m T28 184 #[iv p1] [(.int (1 : Int32))] _
                    refine XS.goto X28.here hx rfl (pc0 := 184) (pc' := 188) rfl (hb hby d2_184) (by decide) (by decide) ?_
                    show SS p e below m T28 188 #[iv p1] [(.int (1 : Int32))] _
                    exact kk)
                  obtain ⟨fs, hr, hrun, hended, hW, hsame⟩ := X28.leave (v := some (.int (1 : Int32))) (fun h => by rw [Bd.returns] at h; cases h)
                  refine ⟨_, _, hB _ (pre72 _ ?_), hrun, hended, _, _, rfl, ?_, ⟨_, rfl⟩, hW, hsame.mono (by decide) (by decide)⟩
                  · exact retN X28 hx (t := .boolean) Bd.returns (by simp) (hb hby d2_188) hr
                  · exact ⟨by show _ = some (Value.int (f2 p1)); rw [f2, if_neg hc2, if_neg hc5, if_pos hc10, if_pos hc14, if_pos hc18, if_pos hc22, if_pos hc26, if_neg hc30], N28, e28⟩
              · have pre73 : ∀ t, SS p e below m T24 188 #[iv p1] [(.int (1 : Int32))] t → B t := fun t kk => pre25 t (by
                  refine XS.ifYes X24.here hx rfl (pc0 := 70) (pc' := 183) rfl (hb hby d2_70) rfl ((if0 _ _).trans (feq hc26).2) (by decide) (by decide) ?_
                  show SS p e below m T24 183 #[iv p1] [] _
                  refine XS.iconst X24.here hx rfl (hb hby d2_183) ?_
                  show SS p e below m T24 184 #[iv p1] [(.int (1 : Int32))] _
                  refine XS.goto X24.here hx rfl (pc0 := 184) (pc' := 188) rfl (hb hby d2_184) (by decide) (by decide) ?_
                  show SS p e below m T24 188 #[iv p1] [(.int (1 : Int32))] _
                  exact kk)
                obtain ⟨fs, hr, hrun, hended, hW, hsame⟩ := X24.leave (v := some (.int (1 : Int32))) (fun h => by rw [Bd.returns] at h; cases h)
                refine ⟨_, _, hB _ (pre73 _ ?_), hrun, hended, _, _, rfl, ?_, ⟨_, rfl⟩, hW, hsame.mono (by decide) (by decide)⟩
                · exact retN X24 hx (t := .boolean) Bd.returns (by simp) (hb hby d2_188) hr
                · exact ⟨by show _ = some (Value.int (f2 p1)); rw [f2, if_neg hc2, if_neg hc5, if_pos hc10, if_pos hc14, if_pos hc18, if_pos hc22, if_neg hc26], N24, e24⟩
            · have pre74 : ∀ t, SS p e below m T20 188 #[iv p1] [(.int (1 : Int32))] t → B t := fun t kk => pre21 t (by
                refine XS.ifYes X20.here hx rfl (pc0 := 57) (pc' := 183) rfl (hb hby d2_57) rfl ((if0 _ _).trans (feq hc22).2) (by decide) (by decide) ?_
                show SS p e below m T20 183 #[iv p1] [] _
                refine XS.iconst X20.here hx rfl (hb hby d2_183) ?_
                show SS p e below m T20 184 #[iv p1] [(.int (1 : Int32))] _
                refine XS.goto X20.here hx rfl (pc0 := 184) (pc' := 188) rfl (hb hby d2_184) (by decide) (by decide) ?_
                show SS p e below m T20 188 #[iv p1] [(.int (1 : Int32))] _
                exact kk)
              obtain ⟨fs, hr, hrun, hended, hW, hsame⟩ := X20.leave (v := some (.int (1 : Int32))) (fun h => by rw [Bd.returns] at h; cases h)
              refine ⟨_, _, hB _ (pre74 _ ?_), hrun, hended, _, _, rfl, ?_, ⟨_, rfl⟩, hW, hsame.mono (by decide) (by decide)⟩
              · exact retN X20 hx (t := .boolean) Bd.returns (by simp) (hb hby d2_188) hr
              · exact ⟨by show _ = some (Value.int (f2 p1)); rw [f2, if_neg hc2, if_neg hc5, if_pos hc10, if_pos hc14, if_pos hc18, if_neg hc22], N20, e20⟩
          · have pre75 : ∀ t, SS p e below m T16 188 #[iv p1] [(.int (1 : Int32))] t → B t := fun t kk => pre17 t (by
              refine XS.ifYes X16.here hx rfl (pc0 := 44) (pc' := 183) rfl (hb hby d2_44) rfl ((if0 _ _).trans (feq hc18).2) (by decide) (by decide) ?_
              show SS p e below m T16 183 #[iv p1] [] _
              refine XS.iconst X16.here hx rfl (hb hby d2_183) ?_
              show SS p e below m T16 184 #[iv p1] [(.int (1 : Int32))] _
              refine XS.goto X16.here hx rfl (pc0 := 184) (pc' := 188) rfl (hb hby d2_184) (by decide) (by decide) ?_
              show SS p e below m T16 188 #[iv p1] [(.int (1 : Int32))] _
              exact kk)
            obtain ⟨fs, hr, hrun, hended, hW, hsame⟩ := X16.leave (v := some (.int (1 : Int32))) (fun h => by rw [Bd.returns] at h; cases h)
            refine ⟨_, _, hB _ (pre75 _ ?_), hrun, hended, _, _, rfl, ?_, ⟨_, rfl⟩, hW, hsame.mono (by decide) (by decide)⟩
            · exact retN X16 hx (t := .boolean) Bd.returns (by simp) (hb hby d2_188) hr
            · exact ⟨by show _ = some (Value.int (f2 p1)); rw [f2, if_neg hc2, if_neg hc5, if_pos hc10, if_pos hc14, if_neg hc18], N16, e16⟩
        · have pre76 : ∀ t, SS p e below m T12 188 #[iv p1] [(.int (1 : Int32))] t → B t := fun t kk => pre13 t (by
            refine XS.ifYes X12.here hx rfl (pc0 := 31) (pc' := 183) rfl (hb hby d2_31) rfl ((if0 _ _).trans (feq hc14).2) (by decide) (by decide) ?_
            show SS p e below m T12 183 #[iv p1] [] _
            refine XS.iconst X12.here hx rfl (hb hby d2_183) ?_
            show SS p e below m T12 184 #[iv p1] [(.int (1 : Int32))] _
            refine XS.goto X12.here hx rfl (pc0 := 184) (pc' := 188) rfl (hb hby d2_184) (by decide) (by decide) ?_
            show SS p e below m T12 188 #[iv p1] [(.int (1 : Int32))] _
            exact kk)
          obtain ⟨fs, hr, hrun, hended, hW, hsame⟩ := X12.leave (v := some (.int (1 : Int32))) (fun h => by rw [Bd.returns] at h; cases h)
          refine ⟨_, _, hB _ (pre76 _ ?_), hrun, hended, _, _, rfl, ?_, ⟨_, rfl⟩, hW, hsame.mono (by decide) (by decide)⟩
          · exact retN X12 hx (t := .boolean) Bd.returns (by simp) (hb hby d2_188) hr
          · exact ⟨by show _ = some (Value.int (f2 p1)); rw [f2, if_neg hc2, if_neg hc5, if_pos hc10, if_neg hc14], N12, e12⟩
      · have pre77 : ∀ t, SS p e below m T8 188 #[iv p1] [(.int (1 : Int32))] t → B t := fun t kk => pre9 t (by
          refine XS.ifYes X8.here hx rfl (pc0 := 20) (pc' := 183) rfl (hb hby d2_20) rfl ((if0 _ _).trans (feq hc10).2) (by decide) (by decide) ?_
          show SS p e below m T8 183 #[iv p1] [] _
          refine XS.iconst X8.here hx rfl (hb hby d2_183) ?_
          show SS p e below m T8 184 #[iv p1] [(.int (1 : Int32))] _
          refine XS.goto X8.here hx rfl (pc0 := 184) (pc' := 188) rfl (hb hby d2_184) (by decide) (by decide) ?_
          show SS p e below m T8 188 #[iv p1] [(.int (1 : Int32))] _
          exact kk)
        obtain ⟨fs, hr, hrun, hended, hW, hsame⟩ := X8.leave (v := some (.int (1 : Int32))) (fun h => by rw [Bd.returns] at h; cases h)
        refine ⟨_, _, hB _ (pre77 _ ?_), hrun, hended, _, _, rfl, ?_, ⟨_, rfl⟩, hW, hsame.mono (by decide) (by decide)⟩
        · exact retN X8 hx (t := .boolean) Bd.returns (by simp) (hb hby d2_188) hr
        · exact ⟨by show _ = some (Value.int (f2 p1)); rw [f2, if_neg hc2, if_neg hc5, if_neg hc10], N8, e8⟩
theorem own_in0 (x lo hi : Int32) : (f3 x lo hi = (0 : Int32)) ↔ (x < lo ∨ hi < x) := by
  unfold f3
  split
  · simp_all
  · split
    · simp_all
    · simp_all
set_option maxHeartbeats 40000000 in
theorem own_a (x : Int32) : f1 x = if (x.toInt = 58 ∨ x.toInt = 95 ∨ (65 ≤ x.toInt ∧ x.toInt ≤ 90) ∨ (97 ≤ x.toInt ∧ x.toInt ≤ 122) ∨ (192 ≤ x.toInt ∧ x.toInt ≤ 214) ∨ (216 ≤ x.toInt ∧ x.toInt ≤ 246) ∨ (248 ≤ x.toInt ∧ x.toInt ≤ 767) ∨ (880 ≤ x.toInt ∧ x.toInt ≤ 893) ∨ (895 ≤ x.toInt ∧ x.toInt ≤ 8191) ∨ (8204 ≤ x.toInt ∧ x.toInt ≤ 8205) ∨ (8304 ≤ x.toInt ∧ x.toInt ≤ 8591) ∨ (11264 ≤ x.toInt ∧ x.toInt ≤ 12271) ∨ (12289 ≤ x.toInt ∧ x.toInt ≤ 55295) ∨ (63744 ≤ x.toInt ∧ x.toInt ≤ 64975) ∨ (65008 ≤ x.toInt ∧ x.toInt ≤ 65533) ∨ (65536 ≤ x.toInt ∧ x.toInt ≤ 983039)) then 1 else 0 := by
  have L0 : (0 : Int32).toInt = 0 := by decide
  have L1 : (1 : Int32).toInt = 1 := by decide
  have L58 : (58 : Int32).toInt = 58 := by decide
  have L65 : (65 : Int32).toInt = 65 := by decide
  have L90 : (90 : Int32).toInt = 90 := by decide
  have L95 : (95 : Int32).toInt = 95 := by decide
  have L97 : (97 : Int32).toInt = 97 := by decide
  have L122 : (122 : Int32).toInt = 122 := by decide
  have L128 : (128 : Int32).toInt = 128 := by decide
  have L192 : (192 : Int32).toInt = 192 := by decide
  have L214 : (214 : Int32).toInt = 214 := by decide
  have L215 : (215 : Int32).toInt = 215 := by decide
  have L216 : (216 : Int32).toInt = 216 := by decide
  have L246 : (246 : Int32).toInt = 246 := by decide
  have L247 : (247 : Int32).toInt = 247 := by decide
  have L248 : (248 : Int32).toInt = 248 := by decide
  have L767 : (767 : Int32).toInt = 767 := by decide
  have L768 : (768 : Int32).toInt = 768 := by decide
  have L880 : (880 : Int32).toInt = 880 := by decide
  have L893 : (893 : Int32).toInt = 893 := by decide
  have L895 : (895 : Int32).toInt = 895 := by decide
  have L8191 : (8191 : Int32).toInt = 8191 := by decide
  have L8192 : (8192 : Int32).toInt = 8192 := by decide
  have L8204 : (8204 : Int32).toInt = 8204 := by decide
  have L8205 : (8205 : Int32).toInt = 8205 := by decide
  have L8304 : (8304 : Int32).toInt = 8304 := by decide
  have L8591 : (8591 : Int32).toInt = 8591 := by decide
  have L11264 : (11264 : Int32).toInt = 11264 := by decide
  have L12271 : (12271 : Int32).toInt = 12271 := by decide
  have L12289 : (12289 : Int32).toInt = 12289 := by decide
  have L55295 : (55295 : Int32).toInt = 55295 := by decide
  have L63744 : (63744 : Int32).toInt = 63744 := by decide
  have L64975 : (64975 : Int32).toInt = 64975 := by decide
  have L65008 : (65008 : Int32).toInt = 65008 := by decide
  have L65533 : (65533 : Int32).toInt = 65533 := by decide
  have L65536 : (65536 : Int32).toInt = 65536 := by decide
  have L983039 : (983039 : Int32).toInt = 983039 := by decide
  unfold f1
  by_cases t1 : x < (128 : Int32)
  · rw [if_pos t1]
    rw [Int32.lt_iff_toInt_lt] at t1
    by_cases t2 : x < (97 : Int32)
    · rw [if_pos t2]
      rw [Int32.lt_iff_toInt_lt] at t2
      by_cases t3 : x < (65 : Int32)
      · rw [if_pos t3]
        rw [Int32.lt_iff_toInt_lt] at t3
        by_cases t4 : x = (95 : Int32)
        · rw [if_pos t4]
          rw [← Int32.toInt_inj] at t4
          rw [if_pos (by omega)]
        · rw [if_neg t4]
          rw [← Int32.toInt_inj] at t4
          by_cases t5 : x = (58 : Int32)
          · rw [if_pos t5]
            rw [← Int32.toInt_inj] at t5
            rw [if_pos (by omega)]
          · rw [if_neg t5]
            rw [← Int32.toInt_inj] at t5
            rw [if_neg (by omega)]
      · rw [if_neg t3]
        rw [Int32.lt_iff_toInt_lt] at t3
        by_cases t6 : (90 : Int32) < x
        · rw [if_pos t6]
          rw [Int32.lt_iff_toInt_lt] at t6
          by_cases t7 : x = (95 : Int32)
          · rw [if_pos t7]
            rw [← Int32.toInt_inj] at t7
            rw [if_pos (by omega)]
          · rw [if_neg t7]
            rw [← Int32.toInt_inj] at t7
            by_cases t8 : x = (58 : Int32)
            · rw [if_pos t8]
              rw [← Int32.toInt_inj] at t8
              rw [if_pos (by omega)]
            · rw [if_neg t8]
              rw [← Int32.toInt_inj] at t8
              rw [if_neg (by omega)]
        · rw [if_neg t6]
          rw [Int32.lt_iff_toInt_lt] at t6
          rw [if_pos (by omega)]
    · rw [if_neg t2]
      rw [Int32.lt_iff_toInt_lt] at t2
      by_cases t9 : (122 : Int32) < x
      · rw [if_pos t9]
        rw [Int32.lt_iff_toInt_lt] at t9
        by_cases t10 : x < (65 : Int32)
        · rw [if_pos t10]
          rw [Int32.lt_iff_toInt_lt] at t10
          by_cases t11 : x = (95 : Int32)
          · rw [if_pos t11]
            rw [← Int32.toInt_inj] at t11
            rw [if_pos (by omega)]
          · rw [if_neg t11]
            rw [← Int32.toInt_inj] at t11
            by_cases t12 : x = (58 : Int32)
            · rw [if_pos t12]
              rw [← Int32.toInt_inj] at t12
              rw [if_pos (by omega)]
            · rw [if_neg t12]
              rw [← Int32.toInt_inj] at t12
              rw [if_neg (by omega)]
        · rw [if_neg t10]
          rw [Int32.lt_iff_toInt_lt] at t10
          by_cases t13 : (90 : Int32) < x
          · rw [if_pos t13]
            rw [Int32.lt_iff_toInt_lt] at t13
            by_cases t14 : x = (95 : Int32)
            · rw [if_pos t14]
              rw [← Int32.toInt_inj] at t14
              rw [if_pos (by omega)]
            · rw [if_neg t14]
              rw [← Int32.toInt_inj] at t14
              by_cases t15 : x = (58 : Int32)
              · rw [if_pos t15]
                rw [← Int32.toInt_inj] at t15
                rw [if_pos (by omega)]
              · rw [if_neg t15]
                rw [← Int32.toInt_inj] at t15
                rw [if_neg (by omega)]
          · rw [if_neg t13]
            rw [Int32.lt_iff_toInt_lt] at t13
            rw [if_pos (by omega)]
      · rw [if_neg t9]
        rw [Int32.lt_iff_toInt_lt] at t9
        rw [if_pos (by omega)]
  · rw [if_neg t1]
    rw [Int32.lt_iff_toInt_lt] at t1
    by_cases t16 : x < (768 : Int32)
    · rw [if_pos t16]
      rw [Int32.lt_iff_toInt_lt] at t16
      by_cases t17 : x < (192 : Int32)
      · rw [if_pos t17]
        rw [Int32.lt_iff_toInt_lt] at t17
        rw [if_neg (by omega)]
      · rw [if_neg t17]
        rw [Int32.lt_iff_toInt_lt] at t17
        by_cases t18 : x = (215 : Int32)
        · rw [if_pos t18]
          rw [← Int32.toInt_inj] at t18
          rw [if_neg (by omega)]
        · rw [if_neg t18]
          rw [← Int32.toInt_inj] at t18
          by_cases t19 : x = (247 : Int32)
          · rw [if_pos t19]
            rw [← Int32.toInt_inj] at t19
            rw [if_neg (by omega)]
          · rw [if_neg t19]
            rw [← Int32.toInt_inj] at t19
            rw [if_pos (by omega)]
    · rw [if_neg t16]
      rw [Int32.lt_iff_toInt_lt] at t16
      by_cases t20 : x < (8192 : Int32)
      · rw [if_pos t20]
        rw [Int32.lt_iff_toInt_lt] at t20
        by_cases t21 : x < (880 : Int32)
        · rw [if_pos t21]
          rw [Int32.lt_iff_toInt_lt] at t21
          by_cases t22 : x < (895 : Int32)
          · rw [if_pos t22]
            rw [Int32.lt_iff_toInt_lt] at t22
            rw [if_neg (by omega)]
          · rw [if_neg t22]
            rw [Int32.lt_iff_toInt_lt] at t22
            rw [if_pos (by omega)]
        · rw [if_neg t21]
          rw [Int32.lt_iff_toInt_lt] at t21
          by_cases t23 : (893 : Int32) < x
          · rw [if_pos t23]
            rw [Int32.lt_iff_toInt_lt] at t23
            by_cases t24 : x < (895 : Int32)
            · rw [if_pos t24]
              rw [Int32.lt_iff_toInt_lt] at t24
              rw [if_neg (by omega)]
            · rw [if_neg t24]
              rw [Int32.lt_iff_toInt_lt] at t24
              rw [if_pos (by omega)]
          · rw [if_neg t23]
            rw [Int32.lt_iff_toInt_lt] at t23
            rw [if_pos (by omega)]
      · rw [if_neg t20]
        rw [Int32.lt_iff_toInt_lt] at t20
        by_cases t25 : x < (12289 : Int32)
        · rw [if_pos t25]
          rw [Int32.lt_iff_toInt_lt] at t25
          by_cases t26 : x = (8204 : Int32)
          · rw [if_pos t26]
            rw [← Int32.toInt_inj] at t26
            rw [if_pos (by omega)]
          · rw [if_neg t26]
            rw [← Int32.toInt_inj] at t26
            by_cases t27 : x = (8205 : Int32)
            · rw [if_pos t27]
              rw [← Int32.toInt_inj] at t27
              rw [if_pos (by omega)]
            · rw [if_neg t27]
              rw [← Int32.toInt_inj] at t27
              by_cases t28 : x < (8304 : Int32)
              · rw [if_pos t28]
                rw [Int32.lt_iff_toInt_lt] at t28
                by_cases t29 : x < (11264 : Int32)
                · rw [if_pos t29]
                  rw [Int32.lt_iff_toInt_lt] at t29
                  rw [if_neg (by omega)]
                · rw [if_neg t29]
                  rw [Int32.lt_iff_toInt_lt] at t29
                  by_cases t30 : (12271 : Int32) < x
                  · rw [if_pos t30]
                    rw [Int32.lt_iff_toInt_lt] at t30
                    rw [if_neg (by omega)]
                  · rw [if_neg t30]
                    rw [Int32.lt_iff_toInt_lt] at t30
                    rw [if_pos (by omega)]
              · rw [if_neg t28]
                rw [Int32.lt_iff_toInt_lt] at t28
                by_cases t31 : (8591 : Int32) < x
                · rw [if_pos t31]
                  rw [Int32.lt_iff_toInt_lt] at t31
                  by_cases t32 : x < (11264 : Int32)
                  · rw [if_pos t32]
                    rw [Int32.lt_iff_toInt_lt] at t32
                    rw [if_neg (by omega)]
                  · rw [if_neg t32]
                    rw [Int32.lt_iff_toInt_lt] at t32
                    by_cases t33 : (12271 : Int32) < x
                    · rw [if_pos t33]
                      rw [Int32.lt_iff_toInt_lt] at t33
                      rw [if_neg (by omega)]
                    · rw [if_neg t33]
                      rw [Int32.lt_iff_toInt_lt] at t33
                      rw [if_pos (by omega)]
                · rw [if_neg t31]
                  rw [Int32.lt_iff_toInt_lt] at t31
                  rw [if_pos (by omega)]
        · rw [if_neg t25]
          rw [Int32.lt_iff_toInt_lt] at t25
          by_cases t34 : (55295 : Int32) < x
          · rw [if_pos t34]
            rw [Int32.lt_iff_toInt_lt] at t34
            by_cases t35 : x < (63744 : Int32)
            · rw [if_pos t35]
              rw [Int32.lt_iff_toInt_lt] at t35
              by_cases t36 : x < (65008 : Int32)
              · rw [if_pos t36]
                rw [Int32.lt_iff_toInt_lt] at t36
                by_cases t37 : x < (65536 : Int32)
                · rw [if_pos t37]
                  rw [Int32.lt_iff_toInt_lt] at t37
                  rw [if_neg (by omega)]
                · rw [if_neg t37]
                  rw [Int32.lt_iff_toInt_lt] at t37
                  by_cases t38 : (983039 : Int32) < x
                  · rw [if_pos t38]
                    rw [Int32.lt_iff_toInt_lt] at t38
                    rw [if_neg (by omega)]
                  · rw [if_neg t38]
                    rw [Int32.lt_iff_toInt_lt] at t38
                    rw [if_pos (by omega)]
              · rw [if_neg t36]
                rw [Int32.lt_iff_toInt_lt] at t36
                by_cases t39 : (65533 : Int32) < x
                · rw [if_pos t39]
                  rw [Int32.lt_iff_toInt_lt] at t39
                  by_cases t40 : x < (65536 : Int32)
                  · rw [if_pos t40]
                    rw [Int32.lt_iff_toInt_lt] at t40
                    rw [if_neg (by omega)]
                  · rw [if_neg t40]
                    rw [Int32.lt_iff_toInt_lt] at t40
                    by_cases t41 : (983039 : Int32) < x
                    · rw [if_pos t41]
                      rw [Int32.lt_iff_toInt_lt] at t41
                      rw [if_neg (by omega)]
                    · rw [if_neg t41]
                      rw [Int32.lt_iff_toInt_lt] at t41
                      rw [if_pos (by omega)]
                · rw [if_neg t39]
                  rw [Int32.lt_iff_toInt_lt] at t39
                  rw [if_pos (by omega)]
            · rw [if_neg t35]
              rw [Int32.lt_iff_toInt_lt] at t35
              by_cases t42 : (64975 : Int32) < x
              · rw [if_pos t42]
                rw [Int32.lt_iff_toInt_lt] at t42
                by_cases t43 : x < (65008 : Int32)
                · rw [if_pos t43]
                  rw [Int32.lt_iff_toInt_lt] at t43
                  by_cases t44 : x < (65536 : Int32)
                  · rw [if_pos t44]
                    rw [Int32.lt_iff_toInt_lt] at t44
                    rw [if_neg (by omega)]
                  · rw [if_neg t44]
                    rw [Int32.lt_iff_toInt_lt] at t44
                    by_cases t45 : (983039 : Int32) < x
                    · rw [if_pos t45]
                      rw [Int32.lt_iff_toInt_lt] at t45
                      rw [if_neg (by omega)]
                    · rw [if_neg t45]
                      rw [Int32.lt_iff_toInt_lt] at t45
                      rw [if_pos (by omega)]
                · rw [if_neg t43]
                  rw [Int32.lt_iff_toInt_lt] at t43
                  by_cases t46 : (65533 : Int32) < x
                  · rw [if_pos t46]
                    rw [Int32.lt_iff_toInt_lt] at t46
                    by_cases t47 : x < (65536 : Int32)
                    · rw [if_pos t47]
                      rw [Int32.lt_iff_toInt_lt] at t47
                      rw [if_neg (by omega)]
                    · rw [if_neg t47]
                      rw [Int32.lt_iff_toInt_lt] at t47
                      by_cases t48 : (983039 : Int32) < x
                      · rw [if_pos t48]
                        rw [Int32.lt_iff_toInt_lt] at t48
                        rw [if_neg (by omega)]
                      · rw [if_neg t48]
                        rw [Int32.lt_iff_toInt_lt] at t48
                        rw [if_pos (by omega)]
                  · rw [if_neg t46]
                    rw [Int32.lt_iff_toInt_lt] at t46
                    rw [if_pos (by omega)]
              · rw [if_neg t42]
                rw [Int32.lt_iff_toInt_lt] at t42
                rw [if_pos (by omega)]
          · rw [if_neg t34]
            rw [Int32.lt_iff_toInt_lt] at t34
            rw [if_pos (by omega)]
set_option maxHeartbeats 40000000 in
theorem own_b (x : Int32) : f2 x = if (x.toInt = 58 ∨ x.toInt = 95 ∨ (65 ≤ x.toInt ∧ x.toInt ≤ 90) ∨ (97 ≤ x.toInt ∧ x.toInt ≤ 122) ∨ (192 ≤ x.toInt ∧ x.toInt ≤ 214) ∨ (216 ≤ x.toInt ∧ x.toInt ≤ 246) ∨ (248 ≤ x.toInt ∧ x.toInt ≤ 767) ∨ (880 ≤ x.toInt ∧ x.toInt ≤ 893) ∨ (895 ≤ x.toInt ∧ x.toInt ≤ 8191) ∨ (8204 ≤ x.toInt ∧ x.toInt ≤ 8205) ∨ (8304 ≤ x.toInt ∧ x.toInt ≤ 8591) ∨ (11264 ≤ x.toInt ∧ x.toInt ≤ 12271) ∨ (12289 ≤ x.toInt ∧ x.toInt ≤ 55295) ∨ (63744 ≤ x.toInt ∧ x.toInt ≤ 64975) ∨ (65008 ≤ x.toInt ∧ x.toInt ≤ 65533) ∨ (65536 ≤ x.toInt ∧ x.toInt ≤ 983039)) then 1 else 0 := by
  have L0 : (0 : Int32).toInt = 0 := by decide
  have L1 : (1 : Int32).toInt = 1 := by decide
  have L58 : (58 : Int32).toInt = 58 := by decide
  have L65 : (65 : Int32).toInt = 65 := by decide
  have L90 : (90 : Int32).toInt = 90 := by decide
  have L95 : (95 : Int32).toInt = 95 := by decide
  have L97 : (97 : Int32).toInt = 97 := by decide
  have L122 : (122 : Int32).toInt = 122 := by decide
  have L128 : (128 : Int32).toInt = 128 := by decide
  have L192 : (192 : Int32).toInt = 192 := by decide
  have L214 : (214 : Int32).toInt = 214 := by decide
  have L215 : (215 : Int32).toInt = 215 := by decide
  have L216 : (216 : Int32).toInt = 216 := by decide
  have L246 : (246 : Int32).toInt = 246 := by decide
  have L247 : (247 : Int32).toInt = 247 := by decide
  have L248 : (248 : Int32).toInt = 248 := by decide
  have L767 : (767 : Int32).toInt = 767 := by decide
  have L768 : (768 : Int32).toInt = 768 := by decide
  have L880 : (880 : Int32).toInt = 880 := by decide
  have L893 : (893 : Int32).toInt = 893 := by decide
  have L895 : (895 : Int32).toInt = 895 := by decide
  have L8191 : (8191 : Int32).toInt = 8191 := by decide
  have L8192 : (8192 : Int32).toInt = 8192 := by decide
  have L8204 : (8204 : Int32).toInt = 8204 := by decide
  have L8205 : (8205 : Int32).toInt = 8205 := by decide
  have L8304 : (8304 : Int32).toInt = 8304 := by decide
  have L8591 : (8591 : Int32).toInt = 8591 := by decide
  have L11264 : (11264 : Int32).toInt = 11264 := by decide
  have L12271 : (12271 : Int32).toInt = 12271 := by decide
  have L12289 : (12289 : Int32).toInt = 12289 := by decide
  have L55295 : (55295 : Int32).toInt = 55295 := by decide
  have L63744 : (63744 : Int32).toInt = 63744 := by decide
  have L64975 : (64975 : Int32).toInt = 64975 := by decide
  have L65008 : (65008 : Int32).toInt = 65008 := by decide
  have L65533 : (65533 : Int32).toInt = 65533 := by decide
  have L65536 : (65536 : Int32).toInt = 65536 := by decide
  have L983039 : (983039 : Int32).toInt = 983039 := by decide
  unfold f2
  by_cases t1 : x = (58 : Int32)
  · rw [if_pos t1]
    rw [← Int32.toInt_inj] at t1
    rw [if_pos (by omega)]
  · rw [if_neg t1]
    rw [← Int32.toInt_inj] at t1
    by_cases t2 : x = (95 : Int32)
    · rw [if_pos t2]
      rw [← Int32.toInt_inj] at t2
      rw [if_pos (by omega)]
    · rw [if_neg t2]
      rw [← Int32.toInt_inj] at t2
      by_cases t3 : (f3 x (65 : Int32) (90 : Int32)) = (0 : Int32)
      · rw [if_pos t3]
        rw [own_in0] at t3
        rw [Int32.lt_iff_toInt_lt, Int32.lt_iff_toInt_lt] at t3
        by_cases t4 : (f3 x (97 : Int32) (122 : Int32)) = (0 : Int32)
        · rw [if_pos t4]
          rw [own_in0] at t4
          rw [Int32.lt_iff_toInt_lt, Int32.lt_iff_toInt_lt] at t4
          by_cases t5 : (f3 x (192 : Int32) (214 : Int32)) = (0 : Int32)
          · rw [if_pos t5]
            rw [own_in0] at t5
            rw [Int32.lt_iff_toInt_lt, Int32.lt_iff_toInt_lt] at t5
            by_cases t6 : (f3 x (216 : Int32) (246 : Int32)) = (0 : Int32)
            · rw [if_pos t6]
              rw [own_in0] at t6
              rw [Int32.lt_iff_toInt_lt, Int32.lt_iff_toInt_lt] at t6
              by_cases t7 : (f3 x (248 : Int32) (767 : Int32)) = (0 : Int32)
              · rw [if_pos t7]
                rw [own_in0] at t7
                rw [Int32.lt_iff_toInt_lt, Int32.lt_iff_toInt_lt] at t7
                by_cases t8 : (f3 x (880 : Int32) (893 : Int32)) = (0 : Int32)
                · rw [if_pos t8]
                  rw [own_in0] at t8
                  rw [Int32.lt_iff_toInt_lt, Int32.lt_iff_toInt_lt] at t8
                  by_cases t9 : (f3 x (895 : Int32) (8191 : Int32)) = (0 : Int32)
                  · rw [if_pos t9]
                    rw [own_in0] at t9
                    rw [Int32.lt_iff_toInt_lt, Int32.lt_iff_toInt_lt] at t9
                    by_cases t10 : (f3 x (8204 : Int32) (8205 : Int32)) = (0 : Int32)
                    · rw [if_pos t10]
                      rw [own_in0] at t10
                      rw [Int32.lt_iff_toInt_lt, Int32.lt_iff_toInt_lt] at t10
                      by_cases t11 : (f3 x (8304 : Int32) (8591 : Int32)) = (0 : Int32)
                      · rw [if_pos t11]
                        rw [own_in0] at t11
                        rw [Int32.lt_iff_toInt_lt, Int32.lt_iff_toInt_lt] at t11
                        by_cases t12 : (f3 x (11264 : Int32) (12271 : Int32)) = (0 : Int32)
                        · rw [if_pos t12]
                          rw [own_in0] at t12
                          rw [Int32.lt_iff_toInt_lt, Int32.lt_iff_toInt_lt] at t12
                          by_cases t13 : (f3 x (12289 : Int32) (55295 : Int32)) = (0 : Int32)
                          · rw [if_pos t13]
                            rw [own_in0] at t13
                            rw [Int32.lt_iff_toInt_lt, Int32.lt_iff_toInt_lt] at t13
                            by_cases t14 : (f3 x (63744 : Int32) (64975 : Int32)) = (0 : Int32)
                            · rw [if_pos t14]
                              rw [own_in0] at t14
                              rw [Int32.lt_iff_toInt_lt, Int32.lt_iff_toInt_lt] at t14
                              by_cases t15 : (f3 x (65008 : Int32) (65533 : Int32)) = (0 : Int32)
                              · rw [if_pos t15]
                                rw [own_in0] at t15
                                rw [Int32.lt_iff_toInt_lt, Int32.lt_iff_toInt_lt] at t15
                                by_cases t16 : (f3 x (65536 : Int32) (983039 : Int32)) = (0 : Int32)
                                · rw [if_pos t16]
                                  rw [own_in0] at t16
                                  rw [Int32.lt_iff_toInt_lt, Int32.lt_iff_toInt_lt] at t16
                                  rw [if_neg (by omega)]
                                · rw [if_neg t16]
                                  rw [own_in0] at t16
                                  rw [Int32.lt_iff_toInt_lt, Int32.lt_iff_toInt_lt] at t16
                                  rw [if_pos (by omega)]
                              · rw [if_neg t15]
                                rw [own_in0] at t15
                                rw [Int32.lt_iff_toInt_lt, Int32.lt_iff_toInt_lt] at t15
                                rw [if_pos (by omega)]
                            · rw [if_neg t14]
                              rw [own_in0] at t14
                              rw [Int32.lt_iff_toInt_lt, Int32.lt_iff_toInt_lt] at t14
                              rw [if_pos (by omega)]
                          · rw [if_neg t13]
                            rw [own_in0] at t13
                            rw [Int32.lt_iff_toInt_lt, Int32.lt_iff_toInt_lt] at t13
                            rw [if_pos (by omega)]
                        · rw [if_neg t12]
                          rw [own_in0] at t12
                          rw [Int32.lt_iff_toInt_lt, Int32.lt_iff_toInt_lt] at t12
                          rw [if_pos (by omega)]
                      · rw [if_neg t11]
                        rw [own_in0] at t11
                        rw [Int32.lt_iff_toInt_lt, Int32.lt_iff_toInt_lt] at t11
                        rw [if_pos (by omega)]
                    · rw [if_neg t10]
                      rw [own_in0] at t10
                      rw [Int32.lt_iff_toInt_lt, Int32.lt_iff_toInt_lt] at t10
                      rw [if_pos (by omega)]
                  · rw [if_neg t9]
                    rw [own_in0] at t9
                    rw [Int32.lt_iff_toInt_lt, Int32.lt_iff_toInt_lt] at t9
                    rw [if_pos (by omega)]
                · rw [if_neg t8]
                  rw [own_in0] at t8
                  rw [Int32.lt_iff_toInt_lt, Int32.lt_iff_toInt_lt] at t8
                  rw [if_pos (by omega)]
              · rw [if_neg t7]
                rw [own_in0] at t7
                rw [Int32.lt_iff_toInt_lt, Int32.lt_iff_toInt_lt] at t7
                rw [if_pos (by omega)]
            · rw [if_neg t6]
              rw [own_in0] at t6
              rw [Int32.lt_iff_toInt_lt, Int32.lt_iff_toInt_lt] at t6
              rw [if_pos (by omega)]
          · rw [if_neg t5]
            rw [own_in0] at t5
            rw [Int32.lt_iff_toInt_lt, Int32.lt_iff_toInt_lt] at t5
            rw [if_pos (by omega)]
        · rw [if_neg t4]
          rw [own_in0] at t4
          rw [Int32.lt_iff_toInt_lt, Int32.lt_iff_toInt_lt] at t4
          rw [if_pos (by omega)]
      · rw [if_neg t3]
        rw [own_in0] at t3
        rw [Int32.lt_iff_toInt_lt, Int32.lt_iff_toInt_lt] at t3
        rw [if_pos (by omega)]
theorem own_eq (x : Int32) : f1 x = f2 x := (own_a x).trans (own_b x).symm
theorem own_44 (k : Int32) : ¬ (((k.toUInt32 >>> ((1 : Int32) &&& 31).toUInt32).toInt32) % (44 : Int32)) < 0 ∧ (((k.toUInt32 >>> ((1 : Int32) &&& 31).toUInt32).toInt32) % (44 : Int32)) < (44 : Int32) := by
  have s1 : ((k.toUInt32 >>> ((1 : Int32) &&& 31).toUInt32).toInt32).toInt = (k.toInt % 4294967296) / 2 := c_iushr k (1 : Int32) 1 (by decide) (by decide)
  have m := (c_irem ((k.toUInt32 >>> ((1 : Int32) &&& 31).toUInt32).toInt32) (44 : Int32) 44 (by decide)).1 (by omega)
  have L0 : (0 : Int32).toInt = 0 := by decide
  have L44 : (44 : Int32).toInt = 44 := by decide
  rw [Int32.lt_iff_toInt_lt, Int32.lt_iff_toInt_lt]; omega
theorem own_getD (l : List Int32) (k : Nat) (d : Int32) : (l.map Value.int).getD k (.int d) = .int (l.getD k d) := by
  rw [List.getD_eq_getElem?_getD, List.getD_eq_getElem?_getD, List.getElem?_map]
  cases l[k]? <;> rfl
theorem pn_0 : plainName "com/example/mendmark/mendmark/core/XmlCharsIsNameStartPinLaw" = true := by first | (simp [plainName, overriddenIn]; done) | decide +kernel
theorem pd_1 : parseMethodDescriptor "(I)Z" = some ⟨[.int], some .boolean⟩ := by decide +kernel
theorem ef_0 (m : MethodId) (p1 : Int32) (p2 : Int32) (p3 : Int32) : entryFrame m #[(.int p1), (.int p2), (.int p3)] maxLocals = mkF m 0 #[iv p1, iv p2, iv p3, .unset, .unset] [] := by first | (simp [entryFrame, mkF, argsToLocals, Value.category, maxLocals]; done) | rfl
set_option maxRecDepth 65536 in
set_option maxHeartbeats 40000000 in
theorem rm0 (l : Launch) (Z : State) (a0 : Array Value) (hw : ∀ d ∈ tables_1, d.before a0 Z = true) (ws : List Jvm.Cond) (p1 : Int32) (p2 : Int32) (p3 : Int32)  (h0 : Heap) (n0 : Nat) (Z0 : n0 ≤ h0.size)  :
    MetFree l x (head1 (Jvm.Cond.code x code maxLocals ret :: ws) room_1) (fun a U => a = #[(.int p1), (.int p2), (.int p3)] ∧ Z.Warmed39 U.vm ∧ U.heap = h0) (fun _ _ _ _ _ => True) (fun _ U o U' => ∃ v L, o = .returned v ∧ QE n0 v U'.heap L ∧ FrameEnd U o U' L room_1.cells room_1.slots) := by
  refine MetFree.of_bodySF (plainFor_of_name pn_0) hisR ?_
  intro p e s m args below meth c s₁ Bd hml0 hP hK
  obtain ⟨rfl, hZ, hh⟩ := hP
  have hx := Bd.exec
  have hby := Bd.bytes
  have hml : c.maxLocals = 5 := hml0
  have hown : s.vm.findClass "com/example/mendmark/mendmark/core/XmlCharsIsNameStartPinLaw" = some m.cls := findClass_of_methodNamed Bd.named
  have hnm := (name_of_methodNamed Bd.named Bd.method).1
  have X0 : Stand p l e room_1 s m #[(.int p1), (.int p2), (.int p3)] below meth c s₁ [] 0 0 := Stand.of_body Bd
  have e0 : s₁.heap = h0 := by rw [← hh, Bd.state]; rfl
  have N0 := Fr.nil n0
  obtain ⟨B, hB, pre0⟩ : ∃ B : State → Prop, (∀ t, B t → Steps p.tables e below (s₁.setTop (entryFrame m #[(.int p1), (.int p2), (.int p3)] maxLocals)) t) ∧ ∀ t, SS p e below m s₁ 0 #[iv p1, iv p2, iv p3, .unset, .unset] [] t → B t := ⟨_, fun _ q => q, fun t kk => castTop (ef_0 m p1 p2 p3) kk⟩
  have pre1 : ∀ t, SS p e below m s₁ 2 #[iv p1, iv p2, iv p3, .unset, .unset] [(.int (44 : Int32))] t → B t := fun t kk => pre0 t (by
    show SS p e below m s₁ 0 #[iv p1, iv p2, iv p3, .unset, .unset] [] _
    refine XS.bipush X0.here hx rfl (hb hby at_0) ?_
    show SS p e below m s₁ 2 #[iv p1, iv p2, iv p3, .unset, .unset] [(.int (44 : Int32))] _
    exact kk)
  obtain ⟨T2, h2, k2, X2, e2, E2, A2, st2⟩ := newP X0 hx hZ (hw _ (List.mem_of_getElem? (i := 0) rfl)) e0 (g := (mkF m 2 #[iv p1, iv p2, iv p3, .unset, .unset] [(.int (44 : Int32))])) rfl (hb hby at_2) rfl (by decide) (cap := 44) (by decide) (by decide) (by decide) (by decide)
  obtain ⟨b2, g2⟩ : ∃ z, z = h0.size := ⟨_, rfl⟩
  rw [← g2] at A2 st2
  obtain ⟨vs2, hl2, V2⟩ : ∃ l : List Int32, l.length = 44 ∧ Arv Z h2 b2 k2 .int (44 : Int32) (l.map Value.int) (.int (0 : Int32)) := ⟨List.replicate 44 0, List.length_replicate, by rw [List.map_replicate]; exact (Arv.new A2 (by decide)).pad (pad_rep [] _ 44)⟩
  have g_b2 : n0 ≤ b2 := Nat.le_trans Z0 (Nat.le_of_eq g2.symm)
  have Z2 : n0 ≤ h2.size := Nat.le_trans Z0 E2.1
  have pre3 : ∀ t, SS p e below m T2 4 #[iv p1, iv p2, iv p3, .unset, .unset] [(.ref b2)] t → B t := fun t kk => pre1 t (by
    refine st2 _ ?_
    show SS p e below m T2 4 #[iv p1, iv p2, iv p3, .unset, .unset] [(.ref b2)] _
    exact kk)
  obtain ⟨T21, h21, L21, vs21_0, X21, e21, N21, Z21, hl21_0, V21_0, pre21⟩ : ∃ (T : State) (h : Heap) (locs : List Loc) (l0 : List Int32), Stand p l e room_1 s m #[(.int p1), (.int p2), (.int p3)] below meth c T locs 1 44 ∧ T.heap = h ∧ Fr n0 locs ∧ n0 ≤ h.size ∧ l0.length = 44 ∧ Arv Z h b2 k2 .int (44 : Int32) (l0.map Value.int) (.int (0 : Int32)) ∧ (∀ t, SS p e below m T 46 #[iv p1, iv p2, iv p3, .unset, .unset] [(.ref b2)] t → B t) := by
    have pre4 : ∀ t, SS p e below m T2 7 #[iv p1, iv p2, iv p3, .unset, .unset] [(.int (0 : Int32)), (.int (0 : Int32)), (.ref b2), (.ref b2)] t → B t := fun t kk => pre3 t (by
      refine XS.dup X2.here hx rfl (hb hby at_4) rfl rfl ?_
      show SS p e below m T2 5 #[iv p1, iv p2, iv p3, .unset, .unset] [(.ref b2), (.ref b2)] _
      refine XS.iconst X2.here hx rfl (hb hby at_5) ?_
      show SS p e below m T2 6 #[iv p1, iv p2, iv p3, .unset, .unset] [(.int (0 : Int32)), (.ref b2), (.ref b2)] _
      refine XS.iconst X2.here hx rfl (hb hby at_6) ?_
      show SS p e below m T2 7 #[iv p1, iv p2, iv p3, .unset, .unset] [(.int (0 : Int32)), (.int (0 : Int32)), (.ref b2), (.ref b2)] _
      exact kk)
    obtain ⟨cl5, Ar5, q5, S5, M5, H5, G5⟩ := V2
    have hin5 : ¬ ((0 : Int32) < 0 ∨ cl5.slots.size ≤ ((0 : Int32)).toNatClampNeg) := inb_of S5 ⟨by decide, by decide⟩
    obtain ⟨T5, h5, X5, e5, W5, st5⟩ := stI X2 hx hZ e2 Ar5 (j := (0 : Int32)) hin5 (g := (mkF m 7 #[iv p1, iv p2, iv p3, .unset, .unset] [(.int (0 : Int32)), (.int (0 : Int32)), (.ref b2), (.ref b2)])) rfl rfl (hb hby at_7)
    have V5 := Arv.set Ar5 q5 S5 M5 H5 G5 rfl W5 0 rfl (by rw [List.length_map, hl2]; decide)
    obtain ⟨vs5, hl5, V5'⟩ : ∃ l : List Int32, l.length = 44 ∧ Arv Z h5 b2 k2 .int (44 : Int32) (l.map Value.int) (.int (0 : Int32)) := ⟨vs2.set 0 (0 : Int32), by rw [List.length_set]; exact hl2, by rw [List.map_set]; exact V5⟩
    have N5 := Fr.snoc X5 N0 g_b2
    have Z5 : n0 ≤ h5.size := Nat.le_trans Z2 (Keep.of_wr W5).1
    have pre6 : ∀ t, SS p e below m T5 12 #[iv p1, iv p2, iv p3, .unset, .unset] [(.int (58 : Int32)), (.int (1 : Int32)), (.ref b2), (.ref b2)] t → B t := fun t kk => pre4 t (by
      refine st5 _ ?_
      show SS p e below m T5 8 #[iv p1, iv p2, iv p3, .unset, .unset] [(.ref b2)] _
      refine XS.dup X5.here hx rfl (hb hby at_8) rfl rfl ?_
      show SS p e below m T5 9 #[iv p1, iv p2, iv p3, .unset, .unset] [(.ref b2), (.ref b2)] _
      refine XS.iconst X5.here hx rfl (hb hby at_9) ?_
      show SS p e below m T5 10 #[iv p1, iv p2, iv p3, .unset, .unset] [(.int (1 : Int32)), (.ref b2), (.ref b2)] _
      refine XS.bipush X5.here hx rfl (hb hby at_10) ?_
      show SS p e below m T5 12 #[iv p1, iv p2, iv p3, .unset, .unset] [(.int (58 : Int32)), (.int (1 : Int32)), (.ref b2), (.ref b2)] _
      exact kk)
    obtain ⟨cl7, Ar7, q7, S7, M7, H7, G7⟩ := V5'
    have hin7 : ¬ ((1 : Int32) < 0 ∨ cl7.slots.size ≤ ((1 : Int32)).toNatClampNeg) := inb_of S7 ⟨by decide, by decide⟩
    obtain ⟨T7, h7, X7, e7, W7, st7⟩ := stI X5 hx hZ e5 Ar7 (j := (1 : Int32)) hin7 (g := (mkF m 12 #[iv p1, iv p2, iv p3, .unset, .unset] [(.int (58 : Int32)), (.int (1 : Int32)), (.ref b2), (.ref b2)])) rfl rfl (hb hby at_12)
    have V7 := Arv.set Ar7 q7 S7 M7 H7 G7 rfl W7 1 rfl (by rw [List.length_map, hl5]; decide)
    obtain ⟨vs7, hl7, V7'⟩ : ∃ l : List Int32, l.length = 44 ∧ Arv Z h7 b2 k2 .int (44 : Int32) (l.map Value.int) (.int (0 : Int32)) := ⟨vs5.set 1 (58 : Int32), by rw [List.length_set]; exact hl5, by rw [List.map_set]; exact V7⟩
    have N7 := Fr.snoc X7 N5 g_b2
    have Z7 : n0 ≤ h7.size := Nat.le_trans Z5 (Keep.of_wr W7).1
    have pre8 : ∀ t, SS p e below m T7 17 #[iv p1, iv p2, iv p3, .unset, .unset] [(.int (65 : Int32)), (.int (2 : Int32)), (.ref b2), (.ref b2)] t → B t := fun t kk => pre6 t (by
      refine st7 _ ?_
      show SS p e below m T7 13 #[iv p1, iv p2, iv p3, .unset, .unset] [(.ref b2)] _
      refine XS.dup X7.here hx rfl (hb hby at_13) rfl rfl ?_
      show SS p e below m T7 14 #[iv p1, iv p2, iv p3, .unset, .unset] [(.ref b2), (.ref b2)] _
      refine XS.iconst X7.here hx rfl (hb hby at_14) ?_
      show SS p e below m T7 15 #[iv p1, iv p2, iv p3, .unset, .unset] [(.int (2 : Int32)), (.ref b2), (.ref b2)] _
      refine XS.bipush X7.here hx rfl (hb hby at_15) ?_
      show SS p e below m T7 17 #[iv p1, iv p2, iv p3, .unset, .unset] [(.int (65 : Int32)), (.int (2 : Int32)), (.ref b2), (.ref b2)] _
      exact kk)
    obtain ⟨cl9, Ar9, q9, S9, M9, H9, G9⟩ := V7'
    have hin9 : ¬ ((2 : Int32) < 0 ∨ cl9.slots.size ≤ ((2 : Int32)).toNatClampNeg) := inb_of S9 ⟨by decide, by decide⟩
    obtain ⟨T9, h9, X9, e9, W9, st9⟩ := stI X7 hx hZ e7 Ar9 (j := (2 : Int32)) hin9 (g := (mkF m 17 #[iv p1, iv p2, iv p3, .unset, .unset] [(.int (65 : Int32)), (.int (2 : Int32)), (.ref b2), (.ref b2)])) rfl rfl (hb hby at_17)
    have V9 := Arv.set Ar9 q9 S9 M9 H9 G9 rfl W9 2 rfl (by rw [List.length_map, hl7]; decide)
    obtain ⟨vs9, hl9, V9'⟩ : ∃ l : List Int32, l.length = 44 ∧ Arv Z h9 b2 k2 .int (44 : Int32) (l.map Value.int) (.int (0 : Int32)) := ⟨vs7.set 2 (65 : Int32), by rw [List.length_set]; exact hl7, by rw [List.map_set]; exact V9⟩
    have N9 := Fr.snoc X9 N7 g_b2
    have Z9 : n0 ≤ h9.size := Nat.le_trans Z7 (Keep.of_wr W9).1
    have pre10 : ∀ t, SS p e below m T9 22 #[iv p1, iv p2, iv p3, .unset, .unset] [(.int (90 : Int32)), (.int (3 : Int32)), (.ref b2), (.ref b2)] t → B t := fun t kk => pre8 t (by
      refine st9 _ ?_
      show SS p e below m T9 18 #[iv p1, iv p2, iv p3, .unset, .unset] [(.ref b2)] _
      refine XS.dup X9.here hx rfl (hb hby at_18) rfl rfl ?_
      show SS p e below m T9 19 #[iv p1, iv p2, iv p3, .unset, .unset] [(.ref b2), (.ref b2)] _
      refine XS.iconst X9.here hx rfl (hb hby at_19) ?_
      show SS p e below m T9 20 #[iv p1, iv p2, iv p3, .unset, .unset] [(.int (3 : Int32)), (.ref b2), (.ref b2)] _
      refine XS.bipush X9.here hx rfl (hb hby at_20) ?_
      show SS p e below m T9 22 #[iv p1, iv p2, iv p3, .unset, .unset] [(.int (90 : Int32)), (.int (3 : Int32)), (.ref b2), (.ref b2)] _
      exact kk)
    obtain ⟨cl11, Ar11, q11, S11, M11, H11, G11⟩ := V9'
    have hin11 : ¬ ((3 : Int32) < 0 ∨ cl11.slots.size ≤ ((3 : Int32)).toNatClampNeg) := inb_of S11 ⟨by decide, by decide⟩
    obtain ⟨T11, h11, X11, e11, W11, st11⟩ := stI X9 hx hZ e9 Ar11 (j := (3 : Int32)) hin11 (g := (mkF m 22 #[iv p1, iv p2, iv p3, .unset, .unset] [(.int (90 : Int32)), (.int (3 : Int32)), (.ref b2), (.ref b2)])) rfl rfl (hb hby at_22)
    have V11 := Arv.set Ar11 q11 S11 M11 H11 G11 rfl W11 3 rfl (by rw [List.length_map, hl9]; decide)
    obtain ⟨vs11, hl11, V11'⟩ : ∃ l : List Int32, l.length = 44 ∧ Arv Z h11 b2 k2 .int (44 : Int32) (l.map Value.int) (.int (0 : Int32)) := ⟨vs9.set 3 (90 : Int32), by rw [List.length_set]; exact hl9, by rw [List.map_set]; exact V11⟩
    have N11 := Fr.snoc X11 N9 g_b2
    have Z11 : n0 ≤ h11.size := Nat.le_trans Z9 (Keep.of_wr W11).1
    have pre12 : ∀ t, SS p e below m T11 27 #[iv p1, iv p2, iv p3, .unset, .unset] [(.int (95 : Int32)), (.int (4 : Int32)), (.ref b2), (.ref b2)] t → B t := fun t kk => pre10 t (by
      refine st11 _ ?_
      show SS p e below m T11 23 #[iv p1, iv p2, iv p3, .unset, .unset] [(.ref b2)] _
      refine XS.dup X11.here hx rfl (hb hby at_23) rfl rfl ?_
      show SS p e below m T11 24 #[iv p1, iv p2, iv p3, .unset, .unset] [(.ref b2), (.ref b2)] _
      refine XS.iconst X11.here hx rfl (hb hby at_24) ?_
      show SS p e below m T11 25 #[iv p1, iv p2, iv p3, .unset, .unset] [(.int (4 : Int32)), (.ref b2), (.ref b2)] _
      refine XS.bipush X11.here hx rfl (hb hby at_25) ?_
      show SS p e below m T11 27 #[iv p1, iv p2, iv p3, .unset, .unset] [(.int (95 : Int32)), (.int (4 : Int32)), (.ref b2), (.ref b2)] _
      exact kk)
    obtain ⟨cl13, Ar13, q13, S13, M13, H13, G13⟩ := V11'
    have hin13 : ¬ ((4 : Int32) < 0 ∨ cl13.slots.size ≤ ((4 : Int32)).toNatClampNeg) := inb_of S13 ⟨by decide, by decide⟩
    obtain ⟨T13, h13, X13, e13, W13, st13⟩ := stI X11 hx hZ e11 Ar13 (j := (4 : Int32)) hin13 (g := (mkF m 27 #[iv p1, iv p2, iv p3, .unset, .unset] [(.int (95 : Int32)), (.int (4 : Int32)), (.ref b2), (.ref b2)])) rfl rfl (hb hby at_27)
    have V13 := Arv.set Ar13 q13 S13 M13 H13 G13 rfl W13 4 rfl (by rw [List.length_map, hl11]; decide)
    obtain ⟨vs13, hl13, V13'⟩ : ∃ l : List Int32, l.length = 44 ∧ Arv Z h13 b2 k2 .int (44 : Int32) (l.map Value.int) (.int (0 : Int32)) := ⟨vs11.set 4 (95 : Int32), by rw [List.length_set]; exact hl11, by rw [List.map_set]; exact V13⟩
    have N13 := Fr.snoc X13 N11 g_b2
    have Z13 : n0 ≤ h13.size := Nat.le_trans Z11 (Keep.of_wr W13).1
    have pre14 : ∀ t, SS p e below m T13 32 #[iv p1, iv p2, iv p3, .unset, .unset] [(.int (97 : Int32)), (.int (5 : Int32)), (.ref b2), (.ref b2)] t → B t := fun t kk => pre12 t (by
      refine st13 _ ?_
      show SS p e below m T13 28 #[iv p1, iv p2, iv p3, .unset, .unset] [(.ref b2)] _
      refine XS.dup X13.here hx rfl (hb hby at_28) rfl rfl ?_
      show SS p e below m T13 29 #[iv p1, iv p2, iv p3, .unset, .unset] [(.ref b2), (.ref b2)] _
      refine XS.iconst X13.here hx rfl (hb hby at_29) ?_
      show SS p e below m T13 30 #[iv p1, iv p2, iv p3, .unset, .unset] [(.int (5 : Int32)), (.ref b2), (.ref b2)] _
      refine XS.bipush X13.here hx rfl (hb hby at_30) ?_
      show SS p e below m T13 32 #[iv p1, iv p2, iv p3, .unset, .unset] [(.int (97 : Int32)), (.int (5 : Int32)), (.ref b2), (.ref b2)] _
      exact kk)
    obtain ⟨cl15, Ar15, q15, S15, M15, H15, G15⟩ := V13'
    have hin15 : ¬ ((5 : Int32) < 0 ∨ cl15.slots.size ≤ ((5 : Int32)).toNatClampNeg) := inb_of S15 ⟨by decide, by decide⟩
    obtain ⟨T15, h15, X15, e15, W15, st15⟩ := stI X13 hx hZ e13 Ar15 (j := (5 : Int32)) hin15 (g := (mkF m 32 #[iv p1, iv p2, iv p3, .unset, .unset] [(.int (97 : Int32)), (.int (5 : Int32)), (.ref b2), (.ref b2)])) rfl rfl (hb hby at_32)
    have V15 := Arv.set Ar15 q15 S15 M15 H15 G15 rfl W15 5 rfl (by rw [List.length_map, hl13]; decide)
    obtain ⟨vs15, hl15, V15'⟩ : ∃ l : List Int32, l.length = 44 ∧ Arv Z h15 b2 k2 .int (44 : Int32) (l.map Value.int) (.int (0 : Int32)) := ⟨vs13.set 5 (97 : Int32), by rw [List.length_set]; exact hl13, by rw [List.map_set]; exact V15⟩
    have N15 := Fr.snoc X15 N13 g_b2
    have Z15 : n0 ≤ h15.size := Nat.le_trans Z13 (Keep.of_wr W15).1
    have pre16 : ∀ t, SS p e below m T15 38 #[iv p1, iv p2, iv p3, .unset, .unset] [(.int (122 : Int32)), (.int (6 : Int32)), (.ref b2), (.ref b2)] t → B t := fun t kk => pre14 t (by
      refine st15 _ ?_
      show SS p e below m T15 33 #[iv p1, iv p2, iv p3, .unset, .unset] [(.ref b2)] _
      refine XS.dup X15.here hx rfl (hb hby at_33) rfl rfl ?_
      show SS p e below m T15 34 #[iv p1, iv p2, iv p3, .unset, .unset] [(.ref b2), (.ref b2)] _
      refine XS.bipush X15.here hx rfl (hb hby at_34) ?_
      show SS p e below m T15 36 #[iv p1, iv p2, iv p3, .unset, .unset] [(.int (6 : Int32)), (.ref b2), (.ref b2)] _
      refine XS.bipush X15.here hx rfl (hb hby at_36) ?_
      show SS p e below m T15 38 #[iv p1, iv p2, iv p3, .unset, .unset] [(.int (122 : Int32)), (.int (6 : Int32)), (.ref b2), (.ref b2)] _
      exact kk)
    obtain ⟨cl17, Ar17, q17, S17, M17, H17, G17⟩ := V15'
    have hin17 : ¬ ((6 : Int32) < 0 ∨ cl17.slots.size ≤ ((6 : Int32)).toNatClampNeg) := inb_of S17 ⟨by decide, by decide⟩
    obtain ⟨T17, h17, X17, e17, W17, st17⟩ := stI X15 hx hZ e15 Ar17 (j := (6 : Int32)) hin17 (g := (mkF m 38 #[iv p1, iv p2, iv p3, .unset, .unset] [(.int (122 : Int32)), (.int (6 : Int32)), (.ref b2), (.ref b2)])) rfl rfl (hb hby at_38)
    have V17 := Arv.set Ar17 q17 S17 M17 H17 G17 rfl W17 6 rfl (by rw [List.length_map, hl15]; decide)
    obtain ⟨vs17, hl17, V17'⟩ : ∃ l : List Int32, l.length = 44 ∧ Arv Z h17 b2 k2 .int (44 : Int32) (l.map Value.int) (.int (0 : Int32)) := ⟨vs15.set 6 (122 : Int32), by rw [List.length_set]; exact hl15, by rw [List.map_set]; exact V17⟩
    have N17 := Fr.snoc X17 N15 g_b2
    have Z17 : n0 ≤ h17.size := Nat.le_trans Z15 (Keep.of_wr W17).1
    have pre18 : ∀ t, SS p e below m T17 45 #[iv p1, iv p2, iv p3, .unset, .unset] [(.int (128 : Int32)), (.int (7 : Int32)), (.ref b2), (.ref b2)] t → B t := fun t kk => pre16 t (by
      refine st17 _ ?_
      show SS p e below m T17 39 #[iv p1, iv p2, iv p3, .unset, .unset] [(.ref b2)] _
      refine XS.dup X17.here hx rfl (hb hby at_39) rfl rfl ?_
      show SS p e below m T17 40 #[iv p1, iv p2, iv p3, .unset, .unset] [(.ref b2), (.ref b2)] _
      refine XS.bipush X17.here hx rfl (hb hby at_40) ?_
      show SS p e below m T17 42 #[iv p1, iv p2, iv p3, .unset, .unset] [(.int (7 : Int32)), (.ref b2), (.ref b2)] _
      refine XS.sipush X17.here hx rfl (hb hby at_42) ?_
      show SS p e below m T17 45 #[iv p1, iv p2, iv p3, .unset, .unset] [(.int (128 : Int32)), (.int (7 : Int32)), (.ref b2), (.ref b2)] _
      exact kk)
    obtain ⟨cl19, Ar19, q19, S19, M19, H19, G19⟩ := V17'
    have hin19 : ¬ ((7 : Int32) < 0 ∨ cl19.slots.size ≤ ((7 : Int32)).toNatClampNeg) := inb_of S19 ⟨by decide, by decide⟩
    obtain ⟨T19, h19, X19, e19, W19, st19⟩ := stI X17 hx hZ e17 Ar19 (j := (7 : Int32)) hin19 (g := (mkF m 45 #[iv p1, iv p2, iv p3, .unset, .unset] [(.int (128 : Int32)), (.int (7 : Int32)), (.ref b2), (.ref b2)])) rfl rfl (hb hby at_45)
    have V19 := Arv.set Ar19 q19 S19 M19 H19 G19 rfl W19 7 rfl (by rw [List.length_map, hl17]; decide)
    obtain ⟨vs19, hl19, V19'⟩ : ∃ l : List Int32, l.length = 44 ∧ Arv Z h19 b2 k2 .int (44 : Int32) (l.map Value.int) (.int (0 : Int32)) := ⟨vs17.set 7 (128 : Int32), by rw [List.length_set]; exact hl17, by rw [List.map_set]; exact V19⟩
    have N19 := Fr.snoc X19 N17 g_b2
    have Z19 : n0 ≤ h19.size := Nat.le_trans Z17 (Keep.of_wr W19).1
    have pre20 : ∀ t, SS p e below m T19 46 #[iv p1, iv p2, iv p3, .unset, .unset] [(.ref b2)] t → B t := fun t kk => pre18 t (by
      refine st19 _ ?_
      show SS p e below m T19 46 #[iv p1, iv p2, iv p3, .unset, .unset] [(.ref b2)] _
      exact kk)
    exact ⟨T19, h19, _, vs19, X19, e19, N19, Z19, hl19, V19', pre20⟩
  obtain ⟨T39, h39, L39, vs39_0, X39, e39, N39, Z39, hl39_0, V39_0, pre39⟩ : ∃ (T : State) (h : Heap) (locs : List Loc) (l0 : List Int32), Stand p l e room_1 s m #[(.int p1), (.int p2), (.int p3)] below meth c T locs 1 44 ∧ T.heap = h ∧ Fr n0 locs ∧ n0 ≤ h.size ∧ l0.length = 44 ∧ Arv Z h b2 k2 .int (44 : Int32) (l0.map Value.int) (.int (0 : Int32)) ∧ (∀ t, SS p e below m T 102 #[iv p1, iv p2, iv p3, .unset, .unset] [(.ref b2)] t → B t) := by
    have pre22 : ∀ t, SS p e below m T21 52 #[iv p1, iv p2, iv p3, .unset, .unset] [(.int (192 : Int32)), (.int (8 : Int32)), (.ref b2), (.ref b2)] t → B t := fun t kk => pre21 t (by
      refine XS.dup X21.here hx rfl (hb hby at_46) rfl rfl ?_
      show SS p e below m T21 47 #[iv p1, iv p2, iv p3, .unset, .unset] [(.ref b2), (.ref b2)] _
      refine XS.bipush X21.here hx rfl (hb hby at_47) ?_
      show SS p e below m T21 49 #[iv p1, iv p2, iv p3, .unset, .unset] [(.int (8 : Int32)), (.ref b2), (.ref b2)] _
      refine XS.sipush X21.here hx rfl (hb hby at_49) ?_
      show SS p e below m T21 52 #[iv p1, iv p2, iv p3, .unset, .unset] [(.int (192 : Int32)), (.int (8 : Int32)), (.ref b2), (.ref b2)] _
      exact kk)
    obtain ⟨cl23, Ar23, q23, S23, M23, H23, G23⟩ := V21_0
    have hin23 : ¬ ((8 : Int32) < 0 ∨ cl23.slots.size ≤ ((8 : Int32)).toNatClampNeg) := inb_of S23 ⟨by decide, by decide⟩
    obtain ⟨T23, h23, X23, e23, W23, st23⟩ := stI X21 hx hZ e21 Ar23 (j := (8 : Int32)) hin23 (g := (mkF m 52 #[iv p1, iv p2, iv p3, .unset, .unset] [(.int (192 : Int32)), (.int (8 : Int32)), (.ref b2), (.ref b2)])) rfl rfl (hb hby at_52)
    have V23 := Arv.set Ar23 q23 S23 M23 H23 G23 rfl W23 8 rfl (by rw [List.length_map, hl21_0]; decide)
    obtain ⟨vs23, hl23, V23'⟩ : ∃ l : List Int32, l.length = 44 ∧ Arv Z h23 b2 k2 .int (44 : Int32) (l.map Value.int) (.int (0 : Int32)) := ⟨vs21_0.set 8 (192 : Int32), by rw [List.length_set]; exact hl21_0, by rw [List.map_set]; exact V23⟩
    have N23 := Fr.snoc X23 N21 g_b2
    have Z23 : n0 ≤ h23.size := Nat.le_trans Z21 (Keep.of_wr W23).1
    have pre24 : ∀ t, SS p e below m T23 59 #[iv p1, iv p2, iv p3, .unset, .unset] [(.int (214 : Int32)), (.int (9 : Int32)), (.ref b2), (.ref b2)] t → B t := fun t kk => pre22 t (by
      refine st23 _ ?_
      show SS p e below m T23 53 #[iv p1, iv p2, iv p3, .unset, .unset] [(.ref b2)] _
      refine XS.dup X23.here hx rfl (hb hby at_53) rfl rfl ?_
      show SS p e below m T23 54 #[iv p1, iv p2, iv p3, .unset, .unset] [(.ref b2), (.ref b2)] _
      refine XS.bipush X23.here hx rfl (hb hby at_54) ?_
      show SS p e below m T23 56 #[iv p1, iv p2, iv p3, .unset, .unset] [(.int (9 : Int32)), (.ref b2), (.ref b2)] _
      refine XS.sipush X23.here hx rfl (hb hby at_56) ?_
      show SS p e below m T23 59 #[iv p1, iv p2, iv p3, .unset, .unset] [(.int (214 : Int32)), (.int (9 : Int32)), (.ref b2), (.ref b2)] _
      exact kk)
    obtain ⟨cl25, Ar25, q25, S25, M25, H25, G25⟩ := V23'
    have hin25 : ¬ ((9 : Int32) < 0 ∨ cl25.slots.size ≤ ((9 : Int32)).toNatClampNeg) := inb_of S25 ⟨by decide, by decide⟩
    obtain ⟨T25, h25, X25, e25, W25, st25⟩ := stI X23 hx hZ e23 Ar25 (j := (9 : Int32)) hin25 (g := (mkF m 59 #[iv p1, iv p2, iv p3, .unset, .unset] [(.int (214 : Int32)), (.int (9 : Int32)), (.ref b2), (.ref b2)])) rfl rfl (hb hby at_59)
    have V25 := Arv.set Ar25 q25 S25 M25 H25 G25 rfl W25 9 rfl (by rw [List.length_map, hl23]; decide)
    obtain ⟨vs25, hl25, V25'⟩ : ∃ l : List Int32, l.length = 44 ∧ Arv Z h25 b2 k2 .int (44 : Int32) (l.map Value.int) (.int (0 : Int32)) := ⟨vs23.set 9 (214 : Int32), by rw [List.length_set]; exact hl23, by rw [List.map_set]; exact V25⟩
    have N25 := Fr.snoc X25 N23 g_b2
    have Z25 : n0 ≤ h25.size := Nat.le_trans Z23 (Keep.of_wr W25).1
    have pre26 : ∀ t, SS p e below m T25 66 #[iv p1, iv p2, iv p3, .unset, .unset] [(.int (215 : Int32)), (.int (10 : Int32)), (.ref b2), (.ref b2)] t → B t := fun t kk => pre24 t (by
      refine st25 _ ?_
      show SS p e below m T25 60 #[iv p1, iv p2, iv p3, .unset, .unset] [(.ref b2)] _
      refine XS.dup X25.here hx rfl (hb hby at_60) rfl rfl ?_
      show SS p e below m T25 61 #[iv p1, iv p2, iv p3, .unset, .unset] [(.ref b2), (.ref b2)] _
      refine XS.bipush X25.here hx rfl (hb hby at_61) ?_
      show SS p e below m T25 63 #[iv p1, iv p2, iv p3, .unset, .unset] [(.int (10 : Int32)), (.ref b2), (.ref b2)] _
      refine XS.sipush X25.here hx rfl (hb hby at_63) ?_
      show SS p e below m T25 66 #[iv p1, iv p2, iv p3, .unset, .unset] [(.int (215 : Int32)), (.int (10 : Int32)), (.ref b2), (.ref b2)] _
      exact kk)
    obtain ⟨cl27, Ar27, q27, S27, M27, H27, G27⟩ := V25'
    have hin27 : ¬ ((10 : Int32) < 0 ∨ cl27.slots.size ≤ ((10 : Int32)).toNatClampNeg) := inb_of S27 ⟨by decide, by decide⟩
    obtain ⟨T27, h27, X27, e27, W27, st27⟩ := stI X25 hx hZ e25 Ar27 (j := (10 : Int32)) hin27 (g := (mkF m 66 #[iv p1, iv p2, iv p3, .unset, .unset] [(.int (215 : Int32)), (.int (10 : Int32)), (.ref b2), (.ref b2)])) rfl rfl (hb hby at_66)
    have V27 := Arv.set Ar27 q27 S27 M27 H27 G27 rfl W27 10 rfl (by rw [List.length_map, hl25]; decide)
    obtain ⟨vs27, hl27, V27'⟩ : ∃ l : List Int32, l.length = 44 ∧ Arv Z h27 b2 k2 .int (44 : Int32) (l.map Value.int) (.int (0 : Int32)) := ⟨vs25.set 10 (215 : Int32), by rw [List.length_set]; exact hl25, by rw [List.map_set]; exact V27⟩
    have N27 := Fr.snoc X27 N25 g_b2
    have Z27 : n0 ≤ h27.size := Nat.le_trans Z25 (Keep.of_wr W27).1
    have pre28 : ∀ t, SS p e below m T27 73 #[iv p1, iv p2, iv p3, .unset, .unset] [(.int (216 : Int32)), (.int (11 : Int32)), (.ref b2), (.ref b2)] t → B t := fun t kk => pre26 t (by
      refine st27 _ ?_
      show SS p e below m T27 67 #[iv p1, iv p2, iv p3, .unset, .unset] [(.ref b2)] _
      refine XS.dup X27.here hx rfl (hb hby at_67) rfl rfl ?_
      show SS p e below m T27 68 #[iv p1, iv p2, iv p3, .unset, .unset] [(.ref b2), (.ref b2)] _
      refine XS.bipush X27.here hx rfl (hb hby at_68) ?_
      show SS p e below m T27 70 #[iv p1, iv p2, iv p3, .unset, .unset] [(.int (11 : Int32)), (.ref b2), (.ref b2)] _
      refine XS.sipush X27.here hx rfl (hb hby at_70) ?_
      show SS p e below m T27 73 #[iv p1, iv p2, iv p3, .unset, .unset] [(.int (216 : Int32)), (.int (11 : Int32)), (.ref b2), (.ref b2)] _
      exact kk)
    obtain ⟨cl29, Ar29, q29, S29, M29, H29, G29⟩ := V27'
    have hin29 : ¬ ((11 : Int32) < 0 ∨ cl29.slots.size ≤ ((11 : Int32)).toNatClampNeg) := inb_of S29 ⟨by decide, by decide⟩
    obtain ⟨T29, h29, X29, e29, W29, st29⟩ := stI X27 hx hZ e27 Ar29 (j := (11 : Int32)) hin29 (g := (mkF m 73 #[iv p1, iv p2, iv p3, .unset, .unset] [(.int (216 : Int32)), (.int (11 : Int32)), (.ref b2), (.ref b2)])) rfl rfl (hb hby at_73)
    have V29 := Arv.set Ar29 q29 S29 M29 H29 G29 rfl W29 11 rfl (by rw [List.length_map, hl27]; decide)
    obtain ⟨vs29, hl29, V29'⟩ : ∃ l : List Int32, l.length = 44 ∧ Arv Z h29 b2 k2 .int (44 : Int32) (l.map Value.int) (.int (0 : Int32)) := ⟨vs27.set 11 (216 : Int32), by rw [List.length_set]; exact hl27, by rw [List.map_set]; exact V29⟩
    have N29 := Fr.snoc X29 N27 g_b2
    have Z29 : n0 ≤ h29.size := Nat.le_trans Z27 (Keep.of_wr W29).1
    have pre30 : ∀ t, SS p e below m T29 80 #[iv p1, iv p2, iv p3, .unset, .unset] [(.int (246 : Int32)), (.int (12 : Int32)), (.ref b2), (.ref b2)] t → B t := fun t kk => pre28 t (by
      refine st29 _ ?_
      show SS p e below m T29 74 #[iv p1, iv p2, iv p3, .unset, .unset] [(.ref b2)] _
      refine XS.dup X29.here hx rfl (hb hby at_74) rfl rfl ?_
      show SS p e below m T29 75 #[iv p1, iv p2, iv p3, .unset, .unset] [(.ref b2), (.ref b2)] _
      refine XS.bipush X29.here hx rfl (hb hby at_75) ?_
      show SS p e below m T29 77 #[iv p1, iv p2, iv p3, .unset, .unset] [(.int (12 : Int32)), (.ref b2), (.ref b2)] _
      refine XS.sipush X29.here hx rfl (hb hby at_77) ?_
      show SS p e below m T29 80 #[iv p1, iv p2, iv p3, .unset, .unset] [(.int (246 : Int32)), (.int (12 : Int32)), (.ref b2), (.ref b2)] _
      exact kk)
    obtain ⟨cl31, Ar31, q31, S31, M31, H31, G31⟩ := V29'
    have hin31 : ¬ ((12 : Int32) < 0 ∨ cl31.slots.size ≤ ((12 : Int32)).toNatClampNeg) := inb_of S31 ⟨by decide, by decide⟩
    obtain ⟨T31, h31, X31, e31, W31, st31⟩ := stI X29 hx hZ e29 Ar31 (j := (12 : Int32)) hin31 (g := (mkF m 80 #[iv p1, iv p2, iv p3, .unset, .unset] [(.int (246 : Int32)), (.int (12 : Int32)), (.ref b2), (.ref b2)])) rfl rfl (hb hby at_80)
    have V31 := Arv.set Ar31 q31 S31 M31 H31 G31 rfl W31 12 rfl (by rw [List.length_map, hl29]; decide)
    obtain ⟨vs31, hl31, V31'⟩ : ∃ l : List Int32, l.length = 44 ∧ Arv Z h31 b2 k2 .int (44 : Int32) (l.map Value.int) (.int (0 : Int32)) := ⟨vs29.set 12 (246 : Int32), by rw [List.length_set]; exact hl29, by rw [List.map_set]; exact V31⟩
    have N31 := Fr.snoc X31 N29 g_b2
    have Z31 : n0 ≤ h31.size := Nat.le_trans Z29 (Keep.of_wr W31).1
    have pre32 : ∀ t, SS p e below m T31 87 #[iv p1, iv p2, iv p3, .unset, .unset] [(.int (247 : Int32)), (.int (13 : Int32)), (.ref b2), (.ref b2)] t → B t := fun t kk => pre30 t (by
      refine st31 _ ?_
      show SS p e below m T31 81 #[iv p1, iv p2, iv p3, .unset, .unset] [(.ref b2)] _
      refine XS.dup X31.here hx rfl (hb hby at_81) rfl rfl ?_
      show SS p e below m T31 82 #[iv p1, iv p2, iv p3, .unset, .unset] [(.ref b2), (.ref b2)] _
      refine XS.bipush X31.here hx rfl (hb hby at_82) ?_
      show SS p e below m T31 84 #[iv p1, iv p2, iv p3, .unset, .unset] [(.int (13 : Int32)), (.ref b2), (.ref b2)] _
      refine XS.sipush X31.here hx rfl (hb hby at_84) ?_
      show SS p e below m T31 87 #[iv p1, iv p2, iv p3, .unset, .unset] [(.int (247 : Int32)), (.int (13 : Int32)), (.ref b2), (.ref b2)] _
      exact kk)
    obtain ⟨cl33, Ar33, q33, S33, M33, H33, G33⟩ := V31'
    have hin33 : ¬ ((13 : Int32) < 0 ∨ cl33.slots.size ≤ ((13 : Int32)).toNatClampNeg) := inb_of S33 ⟨by decide, by decide⟩
    obtain ⟨T33, h33, X33, e33, W33, st33⟩ := stI X31 hx hZ e31 Ar33 (j := (13 : Int32)) hin33 (g := (mkF m 87 #[iv p1, iv p2, iv p3, .unset, .unset] [(.int (247 : Int32)), (.int (13 : Int32)), (.ref b2), (.ref b2)])) rfl rfl (hb hby at_87)
    have V33 := Arv.set Ar33 q33 S33 M33 H33 G33 rfl W33 13 rfl (by rw [List.length_map, hl31]; decide)
    obtain ⟨vs33, hl33, V33'⟩ : ∃ l : List Int32, l.length = 44 ∧ Arv Z h33 b2 k2 .int (44 : Int32) (l.map Value.int) (.int (0 : Int32)) := ⟨vs31.set 13 (247 : Int32), by rw [List.length_set]; exact hl31, by rw [List.map_set]; exact V33⟩
    have N33 := Fr.snoc X33 N31 g_b2
    have Z33 : n0 ≤ h33.size := Nat.le_trans Z31 (Keep.of_wr W33).1
    have pre34 : ∀ t, SS p e below m T33 94 #[iv p1, iv p2, iv p3, .unset, .unset] [(.int (248 : Int32)), (.int (14 : Int32)), (.ref b2), (.ref b2)] t → B t := fun t kk => pre32 t (by
      refine st33 _ ?_
      show SS p e below m T33 88 #[iv p1, iv p2, iv p3, .unset, .unset] [(.ref b2)] _
      refine XS.dup X33.here hx rfl (hb hby at_88) rfl rfl ?_
      show SS p e below m T33 89 #[iv p1, iv p2, iv p3, .unset, .unset] [(.ref b2), (.ref b2)] _
      refine XS.bipush X33.here hx rfl (hb hby at_89) ?_
      show SS p e below m T33 91 #[iv p1, iv p2, iv p3, .unset, .unset] [(.int (14 : Int32)), (.ref b2), (.ref b2)] _
      refine XS.sipush X33.here hx rfl (hb hby at_91) ?_
      show SS p e below m T33 94 #[iv p1, iv p2, iv p3, .unset, .unset] [(.int (248 : Int32)), (.int (14 : Int32)), (.ref b2), (.ref b2)] _
      exact kk)
    obtain ⟨cl35, Ar35, q35, S35, M35, H35, G35⟩ := V33'
    have hin35 : ¬ ((14 : Int32) < 0 ∨ cl35.slots.size ≤ ((14 : Int32)).toNatClampNeg) := inb_of S35 ⟨by decide, by decide⟩
    obtain ⟨T35, h35, X35, e35, W35, st35⟩ := stI X33 hx hZ e33 Ar35 (j := (14 : Int32)) hin35 (g := (mkF m 94 #[iv p1, iv p2, iv p3, .unset, .unset] [(.int (248 : Int32)), (.int (14 : Int32)), (.ref b2), (.ref b2)])) rfl rfl (hb hby at_94)
    have V35 := Arv.set Ar35 q35 S35 M35 H35 G35 rfl W35 14 rfl (by rw [List.length_map, hl33]; decide)
    obtain ⟨vs35, hl35, V35'⟩ : ∃ l : List Int32, l.length = 44 ∧ Arv Z h35 b2 k2 .int (44 : Int32) (l.map Value.int) (.int (0 : Int32)) := ⟨vs33.set 14 (248 : Int32), by rw [List.length_set]; exact hl33, by rw [List.map_set]; exact V35⟩
    have N35 := Fr.snoc X35 N33 g_b2
    have Z35 : n0 ≤ h35.size := Nat.le_trans Z33 (Keep.of_wr W35).1
    have pre36 : ∀ t, SS p e below m T35 101 #[iv p1, iv p2, iv p3, .unset, .unset] [(.int (767 : Int32)), (.int (15 : Int32)), (.ref b2), (.ref b2)] t → B t := fun t kk => pre34 t (by
      refine st35 _ ?_
      show SS p e below m T35 95 #[iv p1, iv p2, iv p3, .unset, .unset] [(.ref b2)] _
      refine XS.dup X35.here hx rfl (hb hby at_95) rfl rfl ?_
      show SS p e below m T35 96 #[iv p1, iv p2, iv p3, .unset, .unset] [(.ref b2), (.ref b2)] _
      refine XS.bipush X35.here hx rfl (hb hby at_96) ?_
      show SS p e below m T35 98 #[iv p1, iv p2, iv p3, .unset, .unset] [(.int (15 : Int32)), (.ref b2), (.ref b2)] _
      refine XS.sipush X35.here hx rfl (hb hby at_98) ?_
      show SS p e below m T35 101 #[iv p1, iv p2, iv p3, .unset, .unset] [(.int (767 : Int32)), (.int (15 : Int32)), (.ref b2), (.ref b2)] _
      exact kk)
    obtain ⟨cl37, Ar37, q37, S37, M37, H37, G37⟩ := V35'
    have hin37 : ¬ ((15 : Int32) < 0 ∨ cl37.slots.size ≤ ((15 : Int32)).toNatClampNeg) := inb_of S37 ⟨by decide, by decide⟩
    obtain ⟨T37, h37, X37, e37, W37, st37⟩ := stI X35 hx hZ e35 Ar37 (j := (15 : Int32)) hin37 (g := (mkF m 101 #[iv p1, iv p2, iv p3, .unset, .unset] [(.int (767 : Int32)), (.int (15 : Int32)), (.ref b2), (.ref b2)])) rfl rfl (hb hby at_101)
    have V37 := Arv.set Ar37 q37 S37 M37 H37 G37 rfl W37 15 rfl (by rw [List.length_map, hl35]; decide)
    obtain ⟨vs37, hl37, V37'⟩ : ∃ l : List Int32, l.length = 44 ∧ Arv Z h37 b2 k2 .int (44 : Int32) (l.map Value.int) (.int (0 : Int32)) := ⟨vs35.set 15 (767 : Int32), by rw [List.length_set]; exact hl35, by rw [List.map_set]; exact V37⟩
    have N37 := Fr.snoc X37 N35 g_b2
    have Z37 : n0 ≤ h37.size := Nat.le_trans Z35 (Keep.of_wr W37).1
    have pre38 : ∀ t, SS p e below m T37 102 #[iv p1, iv p2, iv p3, .unset, .unset] [(.ref b2)] t → B t := fun t kk => pre36 t (by
      refine st37 _ ?_
      show SS p e below m T37 102 #[iv p1, iv p2, iv p3, .unset, .unset] [(.ref b2)] _
      exact kk)
    exact ⟨T37, h37, _, vs37, X37, e37, N37, Z37, hl37, V37', pre38⟩
  obtain ⟨T57, h57, L57, vs57_0, X57, e57, N57, Z57, hl57_0, V57_0, pre57⟩ : ∃ (T : State) (h : Heap) (locs : List Loc) (l0 : List Int32), Stand p l e room_1 s m #[(.int p1), (.int p2), (.int p3)] below meth c T locs 1 44 ∧ T.heap = h ∧ Fr n0 locs ∧ n0 ≤ h.size ∧ l0.length = 44 ∧ Arv Z h b2 k2 .int (44 : Int32) (l0.map Value.int) (.int (0 : Int32)) ∧ (∀ t, SS p e below m T 158 #[iv p1, iv p2, iv p3, .unset, .unset] [(.ref b2)] t → B t) := by
    have pre40 : ∀ t, SS p e below m T39 108 #[iv p1, iv p2, iv p3, .unset, .unset] [(.int (768 : Int32)), (.int (16 : Int32)), (.ref b2), (.ref b2)] t → B t := fun t kk => pre39 t (by
      refine XS.dup X39.here hx rfl (hb hby at_102) rfl rfl ?_
      show SS p e below m T39 103 #[iv p1, iv p2, iv p3, .unset, .unset] [(.ref b2), (.ref b2)] _
      refine XS.bipush X39.here hx rfl (hb hby at_103) ?_
      show SS p e below m T39 105 #[iv p1, iv p2, iv p3, .unset, .unset] [(.int (16 : Int32)), (.ref b2), (.ref b2)] _
      refine XS.sipush X39.here hx rfl (hb hby at_105) ?_
      show SS p e below m T39 108 #[iv p1, iv p2, iv p3, .unset, .unset] [(.int (768 : Int32)), (.int (16 : Int32)), (.ref b2), (.ref b2)] _
      exact kk)
    obtain ⟨cl41, Ar41, q41, S41, M41, H41, G41⟩ := V39_0
    have hin41 : ¬ ((16 : Int32) < 0 ∨ cl41.slots.size ≤ ((16 : Int32)).toNatClampNeg) := inb_of S41 ⟨by decide, by decide⟩
    obtain ⟨T41, h41, X41, e41, W41, st41⟩ := stI X39 hx hZ e39 Ar41 (j := (16 : Int32)) hin41 (g := (mkF m 108 #[iv p1, iv p2, iv p3, .unset, .unset] [(.int (768 : Int32)), (.int (16 : Int32)), (.ref b2), (.ref b2)])) rfl rfl (hb hby at_108)
    have V41 := Arv.set Ar41 q41 S41 M41 H41 G41 rfl W41 16 rfl (by rw [List.length_map, hl39_0]; decide)
    obtain ⟨vs41, hl41, V41'⟩ : ∃ l : List Int32, l.length = 44 ∧ Arv Z h41 b2 k2 .int (44 : Int32) (l.map Value.int) (.int (0 : Int32)) := ⟨vs39_0.set 16 (768 : Int32), by rw [List.length_set]; exact hl39_0, by rw [List.map_set]; exact V41⟩
    have N41 := Fr.snoc X41 N39 g_b2
    have Z41 : n0 ≤ h41.size := Nat.le_trans Z39 (Keep.of_wr W41).1
    have pre42 : ∀ t, SS p e below m T41 115 #[iv p1, iv p2, iv p3, .unset, .unset] [(.int (880 : Int32)), (.int (17 : Int32)), (.ref b2), (.ref b2)] t → B t := fun t kk => pre40 t (by
      refine st41 _ ?_
      show SS p e below m T41 109 #[iv p1, iv p2, iv p3, .unset, .unset] [(.ref b2)] _
      refine XS.dup X41.here hx rfl (hb hby at_109) rfl rfl ?_
      show SS p e below m T41 110 #[iv p1, iv p2, iv p3, .unset, .unset] [(.ref b2), (.ref b2)] _
      refine XS.bipush X41.here hx rfl (hb hby at_110) ?_
      show SS p e below m T41 112 #[iv p1, iv p2, iv p3, .unset, .unset] [(.int (17 : Int32)), (.ref b2), (.ref b2)] _
      refine XS.sipush X41.here hx rfl (hb hby at_112) ?_
      show SS p e below m T41 115 #[iv p1, iv p2, iv p3, .unset, .unset] [(.int (880 : Int32)), (.int (17 : Int32)), (.ref b2), (.ref b2)] _
      exact kk)
    obtain ⟨cl43, Ar43, q43, S43, M43, H43, G43⟩ := V41'
    have hin43 : ¬ ((17 : Int32) < 0 ∨ cl43.slots.size ≤ ((17 : Int32)).toNatClampNeg) := inb_of S43 ⟨by decide, by decide⟩
    obtain ⟨T43, h43, X43, e43, W43, st43⟩ := stI X41 hx hZ e41 Ar43 (j := (17 : Int32)) hin43 (g := (mkF m 115 #[iv p1, iv p2, iv p3, .unset, .unset] [(.int (880 : Int32)), (.int (17 : Int32)), (.ref b2), (.ref b2)])) rfl rfl (hb hby at_115)
    have V43 := Arv.set Ar43 q43 S43 M43 H43 G43 rfl W43 17 rfl (by rw [List.length_map, hl41]; decide)
    obtain ⟨vs43, hl43, V43'⟩ : ∃ l : List Int32, l.length = 44 ∧ Arv Z h43 b2 k2 .int (44 : Int32) (l.map Value.int) (.int (0 : Int32)) := ⟨vs41.set 17 (880 : Int32), by rw [List.length_set]; exact hl41, by rw [List.map_set]; exact V43⟩
    have N43 := Fr.snoc X43 N41 g_b2
    have Z43 : n0 ≤ h43.size := Nat.le_trans Z41 (Keep.of_wr W43).1
    have pre44 : ∀ t, SS p e below m T43 122 #[iv p1, iv p2, iv p3, .unset, .unset] [(.int (893 : Int32)), (.int (18 : Int32)), (.ref b2), (.ref b2)] t → B t := fun t kk => pre42 t (by
      refine st43 _ ?_
      show SS p e below m T43 116 #[iv p1, iv p2, iv p3, .unset, .unset] [(.ref b2)] _
      refine XS.dup X43.here hx rfl (hb hby at_116) rfl rfl ?_
      show SS p e below m T43 117 #[iv p1, iv p2, iv p3, .unset, .unset] [(.ref b2), (.ref b2)] _
      refine XS.bipush X43.here hx rfl (hb hby at_117) ?_
      show SS p e below m T43 119 #[iv p1, iv p2, iv p3, .unset, .unset] [(.int (18 : Int32)), (.ref b2), (.ref b2)] _
      refine XS.sipush X43.here hx rfl (hb hby at_119) ?_
      show SS p e below m T43 122 #[iv p1, iv p2, iv p3, .unset, .unset] [(.int (893 : Int32)), (.int (18 : Int32)), (.ref b2), (.ref b2)] _
      exact kk)
    obtain ⟨cl45, Ar45, q45, S45, M45, H45, G45⟩ := V43'
    have hin45 : ¬ ((18 : Int32) < 0 ∨ cl45.slots.size ≤ ((18 : Int32)).toNatClampNeg) := inb_of S45 ⟨by decide, by decide⟩
    obtain ⟨T45, h45, X45, e45, W45, st45⟩ := stI X43 hx hZ e43 Ar45 (j := (18 : Int32)) hin45 (g := (mkF m 122 #[iv p1, iv p2, iv p3, .unset, .unset] [(.int (893 : Int32)), (.int (18 : Int32)), (.ref b2), (.ref b2)])) rfl rfl (hb hby at_122)
    have V45 := Arv.set Ar45 q45 S45 M45 H45 G45 rfl W45 18 rfl (by rw [List.length_map, hl43]; decide)
    obtain ⟨vs45, hl45, V45'⟩ : ∃ l : List Int32, l.length = 44 ∧ Arv Z h45 b2 k2 .int (44 : Int32) (l.map Value.int) (.int (0 : Int32)) := ⟨vs43.set 18 (893 : Int32), by rw [List.length_set]; exact hl43, by rw [List.map_set]; exact V45⟩
    have N45 := Fr.snoc X45 N43 g_b2
    have Z45 : n0 ≤ h45.size := Nat.le_trans Z43 (Keep.of_wr W45).1
    have pre46 : ∀ t, SS p e below m T45 129 #[iv p1, iv p2, iv p3, .unset, .unset] [(.int (894 : Int32)), (.int (19 : Int32)), (.ref b2), (.ref b2)] t → B t := fun t kk => pre44 t (by
      refine st45 _ ?_
      show SS p e below m T45 123 #[iv p1, iv p2, iv p3, .unset, .unset] [(.ref b2)] _
      refine XS.dup X45.here hx rfl (hb hby at_123) rfl rfl ?_
      show SS p e below m T45 124 #[iv p1, iv p2, iv p3, .unset, .unset] [(.ref b2), (.ref b2)] _
      refine XS.bipush X45.here hx rfl (hb hby at_124) ?_
      show SS p e below m T45 126 #[iv p1, iv p2, iv p3, .unset, .unset] [(.int (19 : Int32)), (.ref b2), (.ref b2)] _
      refine XS.sipush X45.here hx rfl (hb hby at_126) ?_
      show SS p e below m T45 129 #[iv p1, iv p2, iv p3, .unset, .unset] [(.int (894 : Int32)), (.int (19 : Int32)), (.ref b2), (.ref b2)] _
      exact kk)
    obtain ⟨cl47, Ar47, q47, S47, M47, H47, G47⟩ := V45'
    have hin47 : ¬ ((19 : Int32) < 0 ∨ cl47.slots.size ≤ ((19 : Int32)).toNatClampNeg) := inb_of S47 ⟨by decide, by decide⟩
    obtain ⟨T47, h47, X47, e47, W47, st47⟩ := stI X45 hx hZ e45 Ar47 (j := (19 : Int32)) hin47 (g := (mkF m 129 #[iv p1, iv p2, iv p3, .unset, .unset] [(.int (894 : Int32)), (.int (19 : Int32)), (.ref b2), (.ref b2)])) rfl rfl (hb hby at_129)
    have V47 := Arv.set Ar47 q47 S47 M47 H47 G47 rfl W47 19 rfl (by rw [List.length_map, hl45]; decide)
    obtain ⟨vs47, hl47, V47'⟩ : ∃ l : List Int32, l.length = 44 ∧ Arv Z h47 b2 k2 .int (44 : Int32) (l.map Value.int) (.int (0 : Int32)) := ⟨vs45.set 19 (894 : Int32), by rw [List.length_set]; exact hl45, by rw [List.map_set]; exact V47⟩
    have N47 := Fr.snoc X47 N45 g_b2
    have Z47 : n0 ≤ h47.size := Nat.le_trans Z45 (Keep.of_wr W47).1
    have pre48 : ∀ t, SS p e below m T47 136 #[iv p1, iv p2, iv p3, .unset, .unset] [(.int (895 : Int32)), (.int (20 : Int32)), (.ref b2), (.ref b2)] t → B t := fun t kk => pre46 t (by
      refine st47 _ ?_
      show SS p e below m T47 130 #[iv p1, iv p2, iv p3, .unset, .unset] [(.ref b2)] _
      refine XS.dup X47.here hx rfl (hb hby at_130) rfl rfl ?_
      show SS p e below m T47 131 #[iv p1, iv p2, iv p3, .unset, .unset] [(.ref b2), (.ref b2)] _
      refine XS.bipush X47.here hx rfl (hb hby at_131) ?_
      show SS p e below m T47 133 #[iv p1, iv p2, iv p3, .unset, .unset] [(.int (20 : Int32)), (.ref b2), (.ref b2)] _
      refine XS.sipush X47.here hx rfl (hb hby at_133) ?_
      show SS p e below m T47 136 #[iv p1, iv p2, iv p3, .unset, .unset] [(.int (895 : Int32)), (.int (20 : Int32)), (.ref b2), (.ref b2)] _
      exact kk)
    obtain ⟨cl49, Ar49, q49, S49, M49, H49, G49⟩ := V47'
    have hin49 : ¬ ((20 : Int32) < 0 ∨ cl49.slots.size ≤ ((20 : Int32)).toNatClampNeg) := inb_of S49 ⟨by decide, by decide⟩
    obtain ⟨T49, h49, X49, e49, W49, st49⟩ := stI X47 hx hZ e47 Ar49 (j := (20 : Int32)) hin49 (g := (mkF m 136 #[iv p1, iv p2, iv p3, .unset, .unset] [(.int (895 : Int32)), (.int (20 : Int32)), (.ref b2), (.ref b2)])) rfl rfl (hb hby at_136)
    have V49 := Arv.set Ar49 q49 S49 M49 H49 G49 rfl W49 20 rfl (by rw [List.length_map, hl47]; decide)
    obtain ⟨vs49, hl49, V49'⟩ : ∃ l : List Int32, l.length = 44 ∧ Arv Z h49 b2 k2 .int (44 : Int32) (l.map Value.int) (.int (0 : Int32)) := ⟨vs47.set 20 (895 : Int32), by rw [List.length_set]; exact hl47, by rw [List.map_set]; exact V49⟩
    have N49 := Fr.snoc X49 N47 g_b2
    have Z49 : n0 ≤ h49.size := Nat.le_trans Z47 (Keep.of_wr W49).1
    have pre50 : ∀ t, SS p e below m T49 143 #[iv p1, iv p2, iv p3, .unset, .unset] [(.int (8191 : Int32)), (.int (21 : Int32)), (.ref b2), (.ref b2)] t → B t := fun t kk => pre48 t (by
      refine st49 _ ?_
      show SS p e below m T49 137 #[iv p1, iv p2, iv p3, .unset, .unset] [(.ref b2)] _
      refine XS.dup X49.here hx rfl (hb hby at_137) rfl rfl ?_
      show SS p e below m T49 138 #[iv p1, iv p2, iv p3, .unset, .unset] [(.ref b2), (.ref b2)] _
      refine XS.bipush X49.here hx rfl (hb hby at_138) ?_
      show SS p e below m T49 140 #[iv p1, iv p2, iv p3, .unset, .unset] [(.int (21 : Int32)), (.ref b2), (.ref b2)] _
      refine XS.sipush X49.here hx rfl (hb hby at_140) ?_
      show SS p e below m T49 143 #[iv p1, iv p2, iv p3, .unset, .unset] [(.int (8191 : Int32)), (.int (21 : Int32)), (.ref b2), (.ref b2)] _
      exact kk)
    obtain ⟨cl51, Ar51, q51, S51, M51, H51, G51⟩ := V49'
    have hin51 : ¬ ((21 : Int32) < 0 ∨ cl51.slots.size ≤ ((21 : Int32)).toNatClampNeg) := inb_of S51 ⟨by decide, by decide⟩
    obtain ⟨T51, h51, X51, e51, W51, st51⟩ := stI X49 hx hZ e49 Ar51 (j := (21 : Int32)) hin51 (g := (mkF m 143 #[iv p1, iv p2, iv p3, .unset, .unset] [(.int (8191 : Int32)), (.int (21 : Int32)), (.ref b2), (.ref b2)])) rfl rfl (hb hby at_143)
    have V51 := Arv.set Ar51 q51 S51 M51 H51 G51 rfl W51 21 rfl (by rw [List.length_map, hl49]; decide)
    obtain ⟨vs51, hl51, V51'⟩ : ∃ l : List Int32, l.length = 44 ∧ Arv Z h51 b2 k2 .int (44 : Int32) (l.map Value.int) (.int (0 : Int32)) := ⟨vs49.set 21 (8191 : Int32), by rw [List.length_set]; exact hl49, by rw [List.map_set]; exact V51⟩
    have N51 := Fr.snoc X51 N49 g_b2
    have Z51 : n0 ≤ h51.size := Nat.le_trans Z49 (Keep.of_wr W51).1
    have pre52 : ∀ t, SS p e below m T51 150 #[iv p1, iv p2, iv p3, .unset, .unset] [(.int (8192 : Int32)), (.int (22 : Int32)), (.ref b2), (.ref b2)] t → B t := fun t kk => pre50 t (by
      refine st51 _ ?_
      show SS p e below m T51 144 #[iv p1, iv p2, iv p3, .unset, .unset] [(.ref b2)] _
      refine XS.dup X51.here hx rfl (hb hby at_144) rfl rfl ?_
      show SS p e below m T51 145 #[iv p1, iv p2, iv p3, .unset, .unset] [(.ref b2), (.ref b2)] _
      refine XS.bipush X51.here hx rfl (hb hby at_145) ?_
      show SS p e below m T51 147 #[iv p1, iv p2, iv p3, .unset, .unset] [(.int (22 : Int32)), (.ref b2), (.ref b2)] _
      refine XS.sipush X51.here hx rfl (hb hby at_147) ?_
      show SS p e below m T51 150 #[iv p1, iv p2, iv p3, .unset, .unset] [(.int (8192 : Int32)), (.int (22 : Int32)), (.ref b2), (.ref b2)] _
      exact kk)
    obtain ⟨cl53, Ar53, q53, S53, M53, H53, G53⟩ := V51'
    have hin53 : ¬ ((22 : Int32) < 0 ∨ cl53.slots.size ≤ ((22 : Int32)).toNatClampNeg) := inb_of S53 ⟨by decide, by decide⟩
    obtain ⟨T53, h53, X53, e53, W53, st53⟩ := stI X51 hx hZ e51 Ar53 (j := (22 : Int32)) hin53 (g := (mkF m 150 #[iv p1, iv p2, iv p3, .unset, .unset] [(.int (8192 : Int32)), (.int (22 : Int32)), (.ref b2), (.ref b2)])) rfl rfl (hb hby at_150)
    have V53 := Arv.set Ar53 q53 S53 M53 H53 G53 rfl W53 22 rfl (by rw [List.length_map, hl51]; decide)
    obtain ⟨vs53, hl53, V53'⟩ : ∃ l : List Int32, l.length = 44 ∧ Arv Z h53 b2 k2 .int (44 : Int32) (l.map Value.int) (.int (0 : Int32)) := ⟨vs51.set 22 (8192 : Int32), by rw [List.length_set]; exact hl51, by rw [List.map_set]; exact V53⟩
    have N53 := Fr.snoc X53 N51 g_b2
    have Z53 : n0 ≤ h53.size := Nat.le_trans Z51 (Keep.of_wr W53).1
    have pre54 : ∀ t, SS p e below m T53 157 #[iv p1, iv p2, iv p3, .unset, .unset] [(.int (8204 : Int32)), (.int (23 : Int32)), (.ref b2), (.ref b2)] t → B t := fun t kk => pre52 t (by
      refine st53 _ ?_
      show SS p e below m T53 151 #[iv p1, iv p2, iv p3, .unset, .unset] [(.ref b2)] _
      refine XS.dup X53.here hx rfl (hb hby at_151) rfl rfl ?_
      show SS p e below m T53 152 #[iv p1, iv p2, iv p3, .unset, .unset] [(.ref b2), (.ref b2)] _
      refine XS.bipush X53.here hx rfl (hb hby at_152) ?_
      show SS p e below m T53 154 #[iv p1, iv p2, iv p3, .unset, .unset] [(.int (23 : Int32)), (.ref b2), (.ref b2)] _
      refine XS.sipush X53.here hx rfl (hb hby at_154) ?_
      show SS p e below m T53 157 #[iv p1, iv p2, iv p3, .unset, .unset] [(.int (8204 : Int32)), (.int (23 : Int32)), (.ref b2), (.ref b2)] _
      exact kk)
    obtain ⟨cl55, Ar55, q55, S55, M55, H55, G55⟩ := V53'
    have hin55 : ¬ ((23 : Int32) < 0 ∨ cl55.slots.size ≤ ((23 : Int32)).toNatClampNeg) := inb_of S55 ⟨by decide, by decide⟩
    obtain ⟨T55, h55, X55, e55, W55, st55⟩ := stI X53 hx hZ e53 Ar55 (j := (23 : Int32)) hin55 (g := (mkF m 157 #[iv p1, iv p2, iv p3, .unset, .unset] [(.int (8204 : Int32)), (.int (23 : Int32)), (.ref b2), (.ref b2)])) rfl rfl (hb hby at_157)
    have V55 := Arv.set Ar55 q55 S55 M55 H55 G55 rfl W55 23 rfl (by rw [List.length_map, hl53]; decide)
    obtain ⟨vs55, hl55, V55'⟩ : ∃ l : List Int32, l.length = 44 ∧ Arv Z h55 b2 k2 .int (44 : Int32) (l.map Value.int) (.int (0 : Int32)) := ⟨vs53.set 23 (8204 : Int32), by rw [List.length_set]; exact hl53, by rw [List.map_set]; exact V55⟩
    have N55 := Fr.snoc X55 N53 g_b2
    have Z55 : n0 ≤ h55.size := Nat.le_trans Z53 (Keep.of_wr W55).1
    have pre56 : ∀ t, SS p e below m T55 158 #[iv p1, iv p2, iv p3, .unset, .unset] [(.ref b2)] t → B t := fun t kk => pre54 t (by
      refine st55 _ ?_
      show SS p e below m T55 158 #[iv p1, iv p2, iv p3, .unset, .unset] [(.ref b2)] _
      exact kk)
    exact ⟨T55, h55, _, vs55, X55, e55, N55, Z55, hl55, V55', pre56⟩
  obtain ⟨T75, h75, L75, vs75_0, X75, e75, N75, Z75, hl75_0, V75_0, pre75⟩ : ∃ (T : State) (h : Heap) (locs : List Loc) (l0 : List Int32), Stand p l e room_1 s m #[(.int p1), (.int p2), (.int p3)] below meth c T locs 1 44 ∧ T.heap = h ∧ Fr n0 locs ∧ n0 ≤ h.size ∧ l0.length = 44 ∧ Arv Z h b2 k2 .int (44 : Int32) (l0.map Value.int) (.int (0 : Int32)) ∧ (∀ t, SS p e below m T 213 #[iv p1, iv p2, iv p3, .unset, .unset] [(.ref b2)] t → B t) := by
    have pre58 : ∀ t, SS p e below m T57 164 #[iv p1, iv p2, iv p3, .unset, .unset] [(.int (8205 : Int32)), (.int (24 : Int32)), (.ref b2), (.ref b2)] t → B t := fun t kk => pre57 t (by
      refine XS.dup X57.here hx rfl (hb hby at_158) rfl rfl ?_
      show SS p e below m T57 159 #[iv p1, iv p2, iv p3, .unset, .unset] [(.ref b2), (.ref b2)] _
      refine XS.bipush X57.here hx rfl (hb hby at_159) ?_
      show SS p e below m T57 161 #[iv p1, iv p2, iv p3, .unset, .unset] [(.int (24 : Int32)), (.ref b2), (.ref b2)] _
      refine XS.sipush X57.here hx rfl (hb hby at_161) ?_
      show SS p e below m T57 164 #[iv p1, iv p2, iv p3, .unset, .unset] [(.int (8205 : Int32)), (.int (24 : Int32)), (.ref b2), (.ref b2)] _
      exact kk)
    obtain ⟨cl59, Ar59, q59, S59, M59, H59, G59⟩ := V57_0
    have hin59 : ¬ ((24 : Int32) < 0 ∨ cl59.slots.size ≤ ((24 : Int32)).toNatClampNeg) := inb_of S59 ⟨by decide, by decide⟩
    obtain ⟨T59, h59, X59, e59, W59, st59⟩ := stI X57 hx hZ e57 Ar59 (j := (24 : Int32)) hin59 (g := (mkF m 164 #[iv p1, iv p2, iv p3, .unset, .unset] [(.int (8205 : Int32)), (.int (24 : Int32)), (.ref b2), (.ref b2)])) rfl rfl (hb hby at_164)
    have V59 := Arv.set Ar59 q59 S59 M59 H59 G59 rfl W59 24 rfl (by rw [List.length_map, hl57_0]; decide)
    obtain ⟨vs59, hl59, V59'⟩ : ∃ l : List Int32, l.length = 44 ∧ Arv Z h59 b2 k2 .int (44 : Int32) (l.map Value.int) (.int (0 : Int32)) := ⟨vs57_0.set 24 (8205 : Int32), by rw [List.length_set]; exact hl57_0, by rw [List.map_set]; exact V59⟩
    have N59 := Fr.snoc X59 N57 g_b2
    have Z59 : n0 ≤ h59.size := Nat.le_trans Z57 (Keep.of_wr W59).1
    have pre60 : ∀ t, SS p e below m T59 171 #[iv p1, iv p2, iv p3, .unset, .unset] [(.int (8304 : Int32)), (.int (25 : Int32)), (.ref b2), (.ref b2)] t → B t := fun t kk => pre58 t (by
      refine st59 _ ?_
      show SS p e below m T59 165 #[iv p1, iv p2, iv p3, .unset, .unset] [(.ref b2)] _
      refine XS.dup X59.here hx rfl (hb hby at_165) rfl rfl ?_
      show SS p e below m T59 166 #[iv p1, iv p2, iv p3, .unset, .unset] [(.ref b2), (.ref b2)] _
      refine XS.bipush X59.here hx rfl (hb hby at_166) ?_
      show SS p e below m T59 168 #[iv p1, iv p2, iv p3, .unset, .unset] [(.int (25 : Int32)), (.ref b2), (.ref b2)] _
      refine XS.sipush X59.here hx rfl (hb hby at_168) ?_
      show SS p e below m T59 171 #[iv p1, iv p2, iv p3, .unset, .unset] [(.int (8304 : Int32)), (.int (25 : Int32)), (.ref b2), (.ref b2)] _
      exact kk)
    obtain ⟨cl61, Ar61, q61, S61, M61, H61, G61⟩ := V59'
    have hin61 : ¬ ((25 : Int32) < 0 ∨ cl61.slots.size ≤ ((25 : Int32)).toNatClampNeg) := inb_of S61 ⟨by decide, by decide⟩
    obtain ⟨T61, h61, X61, e61, W61, st61⟩ := stI X59 hx hZ e59 Ar61 (j := (25 : Int32)) hin61 (g := (mkF m 171 #[iv p1, iv p2, iv p3, .unset, .unset] [(.int (8304 : Int32)), (.int (25 : Int32)), (.ref b2), (.ref b2)])) rfl rfl (hb hby at_171)
    have V61 := Arv.set Ar61 q61 S61 M61 H61 G61 rfl W61 25 rfl (by rw [List.length_map, hl59]; decide)
    obtain ⟨vs61, hl61, V61'⟩ : ∃ l : List Int32, l.length = 44 ∧ Arv Z h61 b2 k2 .int (44 : Int32) (l.map Value.int) (.int (0 : Int32)) := ⟨vs59.set 25 (8304 : Int32), by rw [List.length_set]; exact hl59, by rw [List.map_set]; exact V61⟩
    have N61 := Fr.snoc X61 N59 g_b2
    have Z61 : n0 ≤ h61.size := Nat.le_trans Z59 (Keep.of_wr W61).1
    have pre62 : ∀ t, SS p e below m T61 178 #[iv p1, iv p2, iv p3, .unset, .unset] [(.int (8591 : Int32)), (.int (26 : Int32)), (.ref b2), (.ref b2)] t → B t := fun t kk => pre60 t (by
      refine st61 _ ?_
      show SS p e below m T61 172 #[iv p1, iv p2, iv p3, .unset, .unset] [(.ref b2)] _
      refine XS.dup X61.here hx rfl (hb hby at_172) rfl rfl ?_
      show SS p e below m T61 173 #[iv p1, iv p2, iv p3, .unset, .unset] [(.ref b2), (.ref b2)] _
      refine XS.bipush X61.here hx rfl (hb hby at_173) ?_
      show SS p e below m T61 175 #[iv p1, iv p2, iv p3, .unset, .unset] [(.int (26 : Int32)), (.ref b2), (.ref b2)] _
      refine XS.sipush X61.here hx rfl (hb hby at_175) ?_
      show SS p e below m T61 178 #[iv p1, iv p2, iv p3, .unset, .unset] [(.int (8591 : Int32)), (.int (26 : Int32)), (.ref b2), (.ref b2)] _
      exact kk)
    obtain ⟨cl63, Ar63, q63, S63, M63, H63, G63⟩ := V61'
    have hin63 : ¬ ((26 : Int32) < 0 ∨ cl63.slots.size ≤ ((26 : Int32)).toNatClampNeg) := inb_of S63 ⟨by decide, by decide⟩
    obtain ⟨T63, h63, X63, e63, W63, st63⟩ := stI X61 hx hZ e61 Ar63 (j := (26 : Int32)) hin63 (g := (mkF m 178 #[iv p1, iv p2, iv p3, .unset, .unset] [(.int (8591 : Int32)), (.int (26 : Int32)), (.ref b2), (.ref b2)])) rfl rfl (hb hby at_178)
    have V63 := Arv.set Ar63 q63 S63 M63 H63 G63 rfl W63 26 rfl (by rw [List.length_map, hl61]; decide)
    obtain ⟨vs63, hl63, V63'⟩ : ∃ l : List Int32, l.length = 44 ∧ Arv Z h63 b2 k2 .int (44 : Int32) (l.map Value.int) (.int (0 : Int32)) := ⟨vs61.set 26 (8591 : Int32), by rw [List.length_set]; exact hl61, by rw [List.map_set]; exact V63⟩
    have N63 := Fr.snoc X63 N61 g_b2
    have Z63 : n0 ≤ h63.size := Nat.le_trans Z61 (Keep.of_wr W63).1
    have pre64 : ∀ t, SS p e below m T63 185 #[iv p1, iv p2, iv p3, .unset, .unset] [(.int (11264 : Int32)), (.int (27 : Int32)), (.ref b2), (.ref b2)] t → B t := fun t kk => pre62 t (by
      refine st63 _ ?_
      show SS p e below m T63 179 #[iv p1, iv p2, iv p3, .unset, .unset] [(.ref b2)] _
      refine XS.dup X63.here hx rfl (hb hby at_179) rfl rfl ?_
      show SS p e below m T63 180 #[iv p1, iv p2, iv p3, .unset, .unset] [(.ref b2), (.ref b2)] _
      refine XS.bipush X63.here hx rfl (hb hby at_180) ?_
      show SS p e below m T63 182 #[iv p1, iv p2, iv p3, .unset, .unset] [(.int (27 : Int32)), (.ref b2), (.ref b2)] _
      refine XS.sipush X63.here hx rfl (hb hby at_182) ?_
      show SS p e below m T63 185 #[iv p1, iv p2, iv p3, .unset, .unset] [(.int (11264 : Int32)), (.int (27 : Int32)), (.ref b2), (.ref b2)] _
      exact kk)
    obtain ⟨cl65, Ar65, q65, S65, M65, H65, G65⟩ := V63'
    have hin65 : ¬ ((27 : Int32) < 0 ∨ cl65.slots.size ≤ ((27 : Int32)).toNatClampNeg) := inb_of S65 ⟨by decide, by decide⟩
    obtain ⟨T65, h65, X65, e65, W65, st65⟩ := stI X63 hx hZ e63 Ar65 (j := (27 : Int32)) hin65 (g := (mkF m 185 #[iv p1, iv p2, iv p3, .unset, .unset] [(.int (11264 : Int32)), (.int (27 : Int32)), (.ref b2), (.ref b2)])) rfl rfl (hb hby at_185)
    have V65 := Arv.set Ar65 q65 S65 M65 H65 G65 rfl W65 27 rfl (by rw [List.length_map, hl63]; decide)
    obtain ⟨vs65, hl65, V65'⟩ : ∃ l : List Int32, l.length = 44 ∧ Arv Z h65 b2 k2 .int (44 : Int32) (l.map Value.int) (.int (0 : Int32)) := ⟨vs63.set 27 (11264 : Int32), by rw [List.length_set]; exact hl63, by rw [List.map_set]; exact V65⟩
    have N65 := Fr.snoc X65 N63 g_b2
    have Z65 : n0 ≤ h65.size := Nat.le_trans Z63 (Keep.of_wr W65).1
    have pre66 : ∀ t, SS p e below m T65 192 #[iv p1, iv p2, iv p3, .unset, .unset] [(.int (12271 : Int32)), (.int (28 : Int32)), (.ref b2), (.ref b2)] t → B t := fun t kk => pre64 t (by
      refine st65 _ ?_
      show SS p e below m T65 186 #[iv p1, iv p2, iv p3, .unset, .unset] [(.ref b2)] _
      refine XS.dup X65.here hx rfl (hb hby at_186) rfl rfl ?_
      show SS p e below m T65 187 #[iv p1, iv p2, iv p3, .unset, .unset] [(.ref b2), (.ref b2)] _
      refine XS.bipush X65.here hx rfl (hb hby at_187) ?_
      show SS p e below m T65 189 #[iv p1, iv p2, iv p3, .unset, .unset] [(.int (28 : Int32)), (.ref b2), (.ref b2)] _
      refine XS.sipush X65.here hx rfl (hb hby at_189) ?_
      show SS p e below m T65 192 #[iv p1, iv p2, iv p3, .unset, .unset] [(.int (12271 : Int32)), (.int (28 : Int32)), (.ref b2), (.ref b2)] _
      exact kk)
    obtain ⟨cl67, Ar67, q67, S67, M67, H67, G67⟩ := V65'
    have hin67 : ¬ ((28 : Int32) < 0 ∨ cl67.slots.size ≤ ((28 : Int32)).toNatClampNeg) := inb_of S67 ⟨by decide, by decide⟩
    obtain ⟨T67, h67, X67, e67, W67, st67⟩ := stI X65 hx hZ e65 Ar67 (j := (28 : Int32)) hin67 (g := (mkF m 192 #[iv p1, iv p2, iv p3, .unset, .unset] [(.int (12271 : Int32)), (.int (28 : Int32)), (.ref b2), (.ref b2)])) rfl rfl (hb hby at_192)
    have V67 := Arv.set Ar67 q67 S67 M67 H67 G67 rfl W67 28 rfl (by rw [List.length_map, hl65]; decide)
    obtain ⟨vs67, hl67, V67'⟩ : ∃ l : List Int32, l.length = 44 ∧ Arv Z h67 b2 k2 .int (44 : Int32) (l.map Value.int) (.int (0 : Int32)) := ⟨vs65.set 28 (12271 : Int32), by rw [List.length_set]; exact hl65, by rw [List.map_set]; exact V67⟩
    have N67 := Fr.snoc X67 N65 g_b2
    have Z67 : n0 ≤ h67.size := Nat.le_trans Z65 (Keep.of_wr W67).1
    have pre68 : ∀ t, SS p e below m T67 199 #[iv p1, iv p2, iv p3, .unset, .unset] [(.int (12288 : Int32)), (.int (29 : Int32)), (.ref b2), (.ref b2)] t → B t := fun t kk => pre66 t (by
      refine st67 _ ?_
      show SS p e below m T67 193 #[iv p1, iv p2, iv p3, .unset, .unset] [(.ref b2)] _
      refine XS.dup X67.here hx rfl (hb hby at_193) rfl rfl ?_
      show SS p e below m T67 194 #[iv p1, iv p2, iv p3, .unset, .unset] [(.ref b2), (.ref b2)] _
      refine XS.bipush X67.here hx rfl (hb hby at_194) ?_
      show SS p e below m T67 196 #[iv p1, iv p2, iv p3, .unset, .unset] [(.int (29 : Int32)), (.ref b2), (.ref b2)] _
      refine XS.sipush X67.here hx rfl (hb hby at_196) ?_
      show SS p e below m T67 199 #[iv p1, iv p2, iv p3, .unset, .unset] [(.int (12288 : Int32)), (.int (29 : Int32)), (.ref b2), (.ref b2)] _
      exact kk)
    obtain ⟨cl69, Ar69, q69, S69, M69, H69, G69⟩ := V67'
    have hin69 : ¬ ((29 : Int32) < 0 ∨ cl69.slots.size ≤ ((29 : Int32)).toNatClampNeg) := inb_of S69 ⟨by decide, by decide⟩
    obtain ⟨T69, h69, X69, e69, W69, st69⟩ := stI X67 hx hZ e67 Ar69 (j := (29 : Int32)) hin69 (g := (mkF m 199 #[iv p1, iv p2, iv p3, .unset, .unset] [(.int (12288 : Int32)), (.int (29 : Int32)), (.ref b2), (.ref b2)])) rfl rfl (hb hby at_199)
    have V69 := Arv.set Ar69 q69 S69 M69 H69 G69 rfl W69 29 rfl (by rw [List.length_map, hl67]; decide)
    obtain ⟨vs69, hl69, V69'⟩ : ∃ l : List Int32, l.length = 44 ∧ Arv Z h69 b2 k2 .int (44 : Int32) (l.map Value.int) (.int (0 : Int32)) := ⟨vs67.set 29 (12288 : Int32), by rw [List.length_set]; exact hl67, by rw [List.map_set]; exact V69⟩
    have N69 := Fr.snoc X69 N67 g_b2
    have Z69 : n0 ≤ h69.size := Nat.le_trans Z67 (Keep.of_wr W69).1
    have pre70 : ∀ t, SS p e below m T69 206 #[iv p1, iv p2, iv p3, .unset, .unset] [(.int (12289 : Int32)), (.int (30 : Int32)), (.ref b2), (.ref b2)] t → B t := fun t kk => pre68 t (by
      refine st69 _ ?_
      show SS p e below m T69 200 #[iv p1, iv p2, iv p3, .unset, .unset] [(.ref b2)] _
      refine XS.dup X69.here hx rfl (hb hby at_200) rfl rfl ?_
      show SS p e below m T69 201 #[iv p1, iv p2, iv p3, .unset, .unset] [(.ref b2), (.ref b2)] _
      refine XS.bipush X69.here hx rfl (hb hby at_201) ?_
      show SS p e below m T69 203 #[iv p1, iv p2, iv p3, .unset, .unset] [(.int (30 : Int32)), (.ref b2), (.ref b2)] _
      refine XS.sipush X69.here hx rfl (hb hby at_203) ?_
      show SS p e below m T69 206 #[iv p1, iv p2, iv p3, .unset, .unset] [(.int (12289 : Int32)), (.int (30 : Int32)), (.ref b2), (.ref b2)] _
      exact kk)
    obtain ⟨cl71, Ar71, q71, S71, M71, H71, G71⟩ := V69'
    have hin71 : ¬ ((30 : Int32) < 0 ∨ cl71.slots.size ≤ ((30 : Int32)).toNatClampNeg) := inb_of S71 ⟨by decide, by decide⟩
    obtain ⟨T71, h71, X71, e71, W71, st71⟩ := stI X69 hx hZ e69 Ar71 (j := (30 : Int32)) hin71 (g := (mkF m 206 #[iv p1, iv p2, iv p3, .unset, .unset] [(.int (12289 : Int32)), (.int (30 : Int32)), (.ref b2), (.ref b2)])) rfl rfl (hb hby at_206)
    have V71 := Arv.set Ar71 q71 S71 M71 H71 G71 rfl W71 30 rfl (by rw [List.length_map, hl69]; decide)
    obtain ⟨vs71, hl71, V71'⟩ : ∃ l : List Int32, l.length = 44 ∧ Arv Z h71 b2 k2 .int (44 : Int32) (l.map Value.int) (.int (0 : Int32)) := ⟨vs69.set 30 (12289 : Int32), by rw [List.length_set]; exact hl69, by rw [List.map_set]; exact V71⟩
    have N71 := Fr.snoc X71 N69 g_b2
    have Z71 : n0 ≤ h71.size := Nat.le_trans Z69 (Keep.of_wr W71).1
    have pre72 : ∀ t, SS p e below m T71 212 #[iv p1, iv p2, iv p3, .unset, .unset] [(.int (55295 : Int32)), (.int (31 : Int32)), (.ref b2), (.ref b2)] t → B t := fun t kk => pre70 t (by
      refine st71 _ ?_
      show SS p e below m T71 207 #[iv p1, iv p2, iv p3, .unset, .unset] [(.ref b2)] _
      refine XS.dup X71.here hx rfl (hb hby at_207) rfl rfl ?_
      show SS p e below m T71 208 #[iv p1, iv p2, iv p3, .unset, .unset] [(.ref b2), (.ref b2)] _
      refine XS.bipush X71.here hx rfl (hb hby at_208) ?_
      show SS p e below m T71 210 #[iv p1, iv p2, iv p3, .unset, .unset] [(.int (31 : Int32)), (.ref b2), (.ref b2)] _
      refine X71.ldcInt hx hown (mvT hZ (hw _ (List.mem_of_getElem? (i := 1) rfl))) (g := (mkF m 210 #[iv p1, iv p2, iv p3, .unset, .unset] [(.int (31 : Int32)), (.ref b2), (.ref b2)])) rfl (hb hby at_210) _ ?_
      show SS p e below m T71 212 #[iv p1, iv p2, iv p3, .unset, .unset] [(.int (55295 : Int32)), (.int (31 : Int32)), (.ref b2), (.ref b2)] _
      exact kk)
    obtain ⟨cl73, Ar73, q73, S73, M73, H73, G73⟩ := V71'
    have hin73 : ¬ ((31 : Int32) < 0 ∨ cl73.slots.size ≤ ((31 : Int32)).toNatClampNeg) := inb_of S73 ⟨by decide, by decide⟩
    obtain ⟨T73, h73, X73, e73, W73, st73⟩ := stI X71 hx hZ e71 Ar73 (j := (31 : Int32)) hin73 (g := (mkF m 212 #[iv p1, iv p2, iv p3, .unset, .unset] [(.int (55295 : Int32)), (.int (31 : Int32)), (.ref b2), (.ref b2)])) rfl rfl (hb hby at_212)
    have V73 := Arv.set Ar73 q73 S73 M73 H73 G73 rfl W73 31 rfl (by rw [List.length_map, hl71]; decide)
    obtain ⟨vs73, hl73, V73'⟩ : ∃ l : List Int32, l.length = 44 ∧ Arv Z h73 b2 k2 .int (44 : Int32) (l.map Value.int) (.int (0 : Int32)) := ⟨vs71.set 31 (55295 : Int32), by rw [List.length_set]; exact hl71, by rw [List.map_set]; exact V73⟩
    have N73 := Fr.snoc X73 N71 g_b2
    have Z73 : n0 ≤ h73.size := Nat.le_trans Z71 (Keep.of_wr W73).1
    have pre74 : ∀ t, SS p e below m T73 213 #[iv p1, iv p2, iv p3, .unset, .unset] [(.ref b2)] t → B t := fun t kk => pre72 t (by
      refine st73 _ ?_
      show SS p e below m T73 213 #[iv p1, iv p2, iv p3, .unset, .unset] [(.ref b2)] _
      exact kk)
    exact ⟨T73, h73, _, vs73, X73, e73, N73, Z73, hl73, V73', pre74⟩
  obtain ⟨T93, h93, L93, vs93_0, X93, e93, N93, Z93, hl93_0, V93_0, pre93⟩ : ∃ (T : State) (h : Heap) (locs : List Loc) (l0 : List Int32), Stand p l e room_1 s m #[(.int p1), (.int p2), (.int p3)] below meth c T locs 1 44 ∧ T.heap = h ∧ Fr n0 locs ∧ n0 ≤ h.size ∧ l0.length = 44 ∧ Arv Z h b2 k2 .int (44 : Int32) (l0.map Value.int) (.int (0 : Int32)) ∧ (∀ t, SS p e below m T 261 #[iv p1, iv p2, iv p3, .unset, .unset] [(.ref b2)] t → B t) := by
    have pre76 : ∀ t, SS p e below m T75 218 #[iv p1, iv p2, iv p3, .unset, .unset] [(.int (55296 : Int32)), (.int (32 : Int32)), (.ref b2), (.ref b2)] t → B t := fun t kk => pre75 t (by
      refine XS.dup X75.here hx rfl (hb hby at_213) rfl rfl ?_
      show SS p e below m T75 214 #[iv p1, iv p2, iv p3, .unset, .unset] [(.ref b2), (.ref b2)] _
      refine XS.bipush X75.here hx rfl (hb hby at_214) ?_
      show SS p e below m T75 216 #[iv p1, iv p2, iv p3, .unset, .unset] [(.int (32 : Int32)), (.ref b2), (.ref b2)] _
      refine X75.ldcInt hx hown (mvT hZ (hw _ (List.mem_of_getElem? (i := 2) rfl))) (g := (mkF m 216 #[iv p1, iv p2, iv p3, .unset, .unset] [(.int (32 : Int32)), (.ref b2), (.ref b2)])) rfl (hb hby at_216) _ ?_
      show SS p e below m T75 218 #[iv p1, iv p2, iv p3, .unset, .unset] [(.int (55296 : Int32)), (.int (32 : Int32)), (.ref b2), (.ref b2)] _
      exact kk)
    obtain ⟨cl77, Ar77, q77, S77, M77, H77, G77⟩ := V75_0
    have hin77 : ¬ ((32 : Int32) < 0 ∨ cl77.slots.size ≤ ((32 : Int32)).toNatClampNeg) := inb_of S77 ⟨by decide, by decide⟩
    obtain ⟨T77, h77, X77, e77, W77, st77⟩ := stI X75 hx hZ e75 Ar77 (j := (32 : Int32)) hin77 (g := (mkF m 218 #[iv p1, iv p2, iv p3, .unset, .unset] [(.int (55296 : Int32)), (.int (32 : Int32)), (.ref b2), (.ref b2)])) rfl rfl (hb hby at_218)
    have V77 := Arv.set Ar77 q77 S77 M77 H77 G77 rfl W77 32 rfl (by rw [List.length_map, hl75_0]; decide)
    obtain ⟨vs77, hl77, V77'⟩ : ∃ l : List Int32, l.length = 44 ∧ Arv Z h77 b2 k2 .int (44 : Int32) (l.map Value.int) (.int (0 : Int32)) := ⟨vs75_0.set 32 (55296 : Int32), by rw [List.length_set]; exact hl75_0, by rw [List.map_set]; exact V77⟩
    have N77 := Fr.snoc X77 N75 g_b2
    have Z77 : n0 ≤ h77.size := Nat.le_trans Z75 (Keep.of_wr W77).1
    have pre78 : ∀ t, SS p e below m T77 224 #[iv p1, iv p2, iv p3, .unset, .unset] [(.int (63744 : Int32)), (.int (33 : Int32)), (.ref b2), (.ref b2)] t → B t := fun t kk => pre76 t (by
      refine st77 _ ?_
      show SS p e below m T77 219 #[iv p1, iv p2, iv p3, .unset, .unset] [(.ref b2)] _
      refine XS.dup X77.here hx rfl (hb hby at_219) rfl rfl ?_
      show SS p e below m T77 220 #[iv p1, iv p2, iv p3, .unset, .unset] [(.ref b2), (.ref b2)] _
      refine XS.bipush X77.here hx rfl (hb hby at_220) ?_
      show SS p e below m T77 222 #[iv p1, iv p2, iv p3, .unset, .unset] [(.int (33 : Int32)), (.ref b2), (.ref b2)] _
      refine X77.ldcInt hx hown (mvT hZ (hw _ (List.mem_of_getElem? (i := 3) rfl))) (g := (mkF m 222 #[iv p1, iv p2, iv p3, .unset, .unset] [(.int (33 : Int32)), (.ref b2), (.ref b2)])) rfl (hb hby at_222) _ ?_
      show SS p e below m T77 224 #[iv p1, iv p2, iv p3, .unset, .unset] [(.int (63744 : Int32)), (.int (33 : Int32)), (.ref b2), (.ref b2)] _
      exact kk)
    obtain ⟨cl79, Ar79, q79, S79, M79, H79, G79⟩ := V77'
    have hin79 : ¬ ((33 : Int32) < 0 ∨ cl79.slots.size ≤ ((33 : Int32)).toNatClampNeg) := inb_of S79 ⟨by decide, by decide⟩
    obtain ⟨T79, h79, X79, e79, W79, st79⟩ := stI X77 hx hZ e77 Ar79 (j := (33 : Int32)) hin79 (g := (mkF m 224 #[iv p1, iv p2, iv p3, .unset, .unset] [(.int (63744 : Int32)), (.int (33 : Int32)), (.ref b2), (.ref b2)])) rfl rfl (hb hby at_224)
    have V79 := Arv.set Ar79 q79 S79 M79 H79 G79 rfl W79 33 rfl (by rw [List.length_map, hl77]; decide)
    obtain ⟨vs79, hl79, V79'⟩ : ∃ l : List Int32, l.length = 44 ∧ Arv Z h79 b2 k2 .int (44 : Int32) (l.map Value.int) (.int (0 : Int32)) := ⟨vs77.set 33 (63744 : Int32), by rw [List.length_set]; exact hl77, by rw [List.map_set]; exact V79⟩
    have N79 := Fr.snoc X79 N77 g_b2
    have Z79 : n0 ≤ h79.size := Nat.le_trans Z77 (Keep.of_wr W79).1
    have pre80 : ∀ t, SS p e below m T79 230 #[iv p1, iv p2, iv p3, .unset, .unset] [(.int (64975 : Int32)), (.int (34 : Int32)), (.ref b2), (.ref b2)] t → B t := fun t kk => pre78 t (by
      refine st79 _ ?_
      show SS p e below m T79 225 #[iv p1, iv p2, iv p3, .unset, .unset] [(.ref b2)] _
      refine XS.dup X79.here hx rfl (hb hby at_225) rfl rfl ?_
      show SS p e below m T79 226 #[iv p1, iv p2, iv p3, .unset, .unset] [(.ref b2), (.ref b2)] _
      refine XS.bipush X79.here hx rfl (hb hby at_226) ?_
      show SS p e below m T79 228 #[iv p1, iv p2, iv p3, .unset, .unset] [(.int (34 : Int32)), (.ref b2), (.ref b2)] _
      refine X79.ldcInt hx hown (mvT hZ (hw _ (List.mem_of_getElem? (i := 4) rfl))) (g := (mkF m 228 #[iv p1, iv p2, iv p3, .unset, .unset] [(.int (34 : Int32)), (.ref b2), (.ref b2)])) rfl (hb hby at_228) _ ?_
      show SS p e below m T79 230 #[iv p1, iv p2, iv p3, .unset, .unset] [(.int (64975 : Int32)), (.int (34 : Int32)), (.ref b2), (.ref b2)] _
      exact kk)
    obtain ⟨cl81, Ar81, q81, S81, M81, H81, G81⟩ := V79'
    have hin81 : ¬ ((34 : Int32) < 0 ∨ cl81.slots.size ≤ ((34 : Int32)).toNatClampNeg) := inb_of S81 ⟨by decide, by decide⟩
    obtain ⟨T81, h81, X81, e81, W81, st81⟩ := stI X79 hx hZ e79 Ar81 (j := (34 : Int32)) hin81 (g := (mkF m 230 #[iv p1, iv p2, iv p3, .unset, .unset] [(.int (64975 : Int32)), (.int (34 : Int32)), (.ref b2), (.ref b2)])) rfl rfl (hb hby at_230)
    have V81 := Arv.set Ar81 q81 S81 M81 H81 G81 rfl W81 34 rfl (by rw [List.length_map, hl79]; decide)
    obtain ⟨vs81, hl81, V81'⟩ : ∃ l : List Int32, l.length = 44 ∧ Arv Z h81 b2 k2 .int (44 : Int32) (l.map Value.int) (.int (0 : Int32)) := ⟨vs79.set 34 (64975 : Int32), by rw [List.length_set]; exact hl79, by rw [List.map_set]; exact V81⟩
    have N81 := Fr.snoc X81 N79 g_b2
    have Z81 : n0 ≤ h81.size := Nat.le_trans Z79 (Keep.of_wr W81).1
    have pre82 : ∀ t, SS p e below m T81 236 #[iv p1, iv p2, iv p3, .unset, .unset] [(.int (65008 : Int32)), (.int (35 : Int32)), (.ref b2), (.ref b2)] t → B t := fun t kk => pre80 t (by
      refine st81 _ ?_
      show SS p e below m T81 231 #[iv p1, iv p2, iv p3, .unset, .unset] [(.ref b2)] _
      refine XS.dup X81.here hx rfl (hb hby at_231) rfl rfl ?_
      show SS p e below m T81 232 #[iv p1, iv p2, iv p3, .unset, .unset] [(.ref b2), (.ref b2)] _
      refine XS.bipush X81.here hx rfl (hb hby at_232) ?_
      show SS p e below m T81 234 #[iv p1, iv p2, iv p3, .unset, .unset] [(.int (35 : Int32)), (.ref b2), (.ref b2)] _
      refine X81.ldcInt hx hown (mvT hZ (hw _ (List.mem_of_getElem? (i := 5) rfl))) (g := (mkF m 234 #[iv p1, iv p2, iv p3, .unset, .unset] [(.int (35 : Int32)), (.ref b2), (.ref b2)])) rfl (hb hby at_234) _ ?_
      show SS p e below m T81 236 #[iv p1, iv p2, iv p3, .unset, .unset] [(.int (65008 : Int32)), (.int (35 : Int32)), (.ref b2), (.ref b2)] _
      exact kk)
    obtain ⟨cl83, Ar83, q83, S83, M83, H83, G83⟩ := V81'
    have hin83 : ¬ ((35 : Int32) < 0 ∨ cl83.slots.size ≤ ((35 : Int32)).toNatClampNeg) := inb_of S83 ⟨by decide, by decide⟩
    obtain ⟨T83, h83, X83, e83, W83, st83⟩ := stI X81 hx hZ e81 Ar83 (j := (35 : Int32)) hin83 (g := (mkF m 236 #[iv p1, iv p2, iv p3, .unset, .unset] [(.int (65008 : Int32)), (.int (35 : Int32)), (.ref b2), (.ref b2)])) rfl rfl (hb hby at_236)
    have V83 := Arv.set Ar83 q83 S83 M83 H83 G83 rfl W83 35 rfl (by rw [List.length_map, hl81]; decide)
    obtain ⟨vs83, hl83, V83'⟩ : ∃ l : List Int32, l.length = 44 ∧ Arv Z h83 b2 k2 .int (44 : Int32) (l.map Value.int) (.int (0 : Int32)) := ⟨vs81.set 35 (65008 : Int32), by rw [List.length_set]; exact hl81, by rw [List.map_set]; exact V83⟩
    have N83 := Fr.snoc X83 N81 g_b2
    have Z83 : n0 ≤ h83.size := Nat.le_trans Z81 (Keep.of_wr W83).1
    have pre84 : ∀ t, SS p e below m T83 242 #[iv p1, iv p2, iv p3, .unset, .unset] [(.int (65533 : Int32)), (.int (36 : Int32)), (.ref b2), (.ref b2)] t → B t := fun t kk => pre82 t (by
      refine st83 _ ?_
      show SS p e below m T83 237 #[iv p1, iv p2, iv p3, .unset, .unset] [(.ref b2)] _
      refine XS.dup X83.here hx rfl (hb hby at_237) rfl rfl ?_
      show SS p e below m T83 238 #[iv p1, iv p2, iv p3, .unset, .unset] [(.ref b2), (.ref b2)] _
      refine XS.bipush X83.here hx rfl (hb hby at_238) ?_
      show SS p e below m T83 240 #[iv p1, iv p2, iv p3, .unset, .unset] [(.int (36 : Int32)), (.ref b2), (.ref b2)] _
      refine X83.ldcInt hx hown (mvT hZ (hw _ (List.mem_of_getElem? (i := 6) rfl))) (g := (mkF m 240 #[iv p1, iv p2, iv p3, .unset, .unset] [(.int (36 : Int32)), (.ref b2), (.ref b2)])) rfl (hb hby at_240) _ ?_
      show SS p e below m T83 242 #[iv p1, iv p2, iv p3, .unset, .unset] [(.int (65533 : Int32)), (.int (36 : Int32)), (.ref b2), (.ref b2)] _
      exact kk)
    obtain ⟨cl85, Ar85, q85, S85, M85, H85, G85⟩ := V83'
    have hin85 : ¬ ((36 : Int32) < 0 ∨ cl85.slots.size ≤ ((36 : Int32)).toNatClampNeg) := inb_of S85 ⟨by decide, by decide⟩
    obtain ⟨T85, h85, X85, e85, W85, st85⟩ := stI X83 hx hZ e83 Ar85 (j := (36 : Int32)) hin85 (g := (mkF m 242 #[iv p1, iv p2, iv p3, .unset, .unset] [(.int (65533 : Int32)), (.int (36 : Int32)), (.ref b2), (.ref b2)])) rfl rfl (hb hby at_242)
    have V85 := Arv.set Ar85 q85 S85 M85 H85 G85 rfl W85 36 rfl (by rw [List.length_map, hl83]; decide)
    obtain ⟨vs85, hl85, V85'⟩ : ∃ l : List Int32, l.length = 44 ∧ Arv Z h85 b2 k2 .int (44 : Int32) (l.map Value.int) (.int (0 : Int32)) := ⟨vs83.set 36 (65533 : Int32), by rw [List.length_set]; exact hl83, by rw [List.map_set]; exact V85⟩
    have N85 := Fr.snoc X85 N83 g_b2
    have Z85 : n0 ≤ h85.size := Nat.le_trans Z83 (Keep.of_wr W85).1
    have pre86 : ∀ t, SS p e below m T85 248 #[iv p1, iv p2, iv p3, .unset, .unset] [(.int (65535 : Int32)), (.int (37 : Int32)), (.ref b2), (.ref b2)] t → B t := fun t kk => pre84 t (by
      refine st85 _ ?_
      show SS p e below m T85 243 #[iv p1, iv p2, iv p3, .unset, .unset] [(.ref b2)] _
      refine XS.dup X85.here hx rfl (hb hby at_243) rfl rfl ?_
      show SS p e below m T85 244 #[iv p1, iv p2, iv p3, .unset, .unset] [(.ref b2), (.ref b2)] _
      refine XS.bipush X85.here hx rfl (hb hby at_244) ?_
      show SS p e below m T85 246 #[iv p1, iv p2, iv p3, .unset, .unset] [(.int (37 : Int32)), (.ref b2), (.ref b2)] _
      refine X85.ldcInt hx hown (mvT hZ (hw _ (List.mem_of_getElem? (i := 7) rfl))) (g := (mkF m 246 #[iv p1, iv p2, iv p3, .unset, .unset] [(.int (37 : Int32)), (.ref b2), (.ref b2)])) rfl (hb hby at_246) _ ?_
      show SS p e below m T85 248 #[iv p1, iv p2, iv p3, .unset, .unset] [(.int (65535 : Int32)), (.int (37 : Int32)), (.ref b2), (.ref b2)] _
      exact kk)
    obtain ⟨cl87, Ar87, q87, S87, M87, H87, G87⟩ := V85'
    have hin87 : ¬ ((37 : Int32) < 0 ∨ cl87.slots.size ≤ ((37 : Int32)).toNatClampNeg) := inb_of S87 ⟨by decide, by decide⟩
    obtain ⟨T87, h87, X87, e87, W87, st87⟩ := stI X85 hx hZ e85 Ar87 (j := (37 : Int32)) hin87 (g := (mkF m 248 #[iv p1, iv p2, iv p3, .unset, .unset] [(.int (65535 : Int32)), (.int (37 : Int32)), (.ref b2), (.ref b2)])) rfl rfl (hb hby at_248)
    have V87 := Arv.set Ar87 q87 S87 M87 H87 G87 rfl W87 37 rfl (by rw [List.length_map, hl85]; decide)
    obtain ⟨vs87, hl87, V87'⟩ : ∃ l : List Int32, l.length = 44 ∧ Arv Z h87 b2 k2 .int (44 : Int32) (l.map Value.int) (.int (0 : Int32)) := ⟨vs85.set 37 (65535 : Int32), by rw [List.length_set]; exact hl85, by rw [List.map_set]; exact V87⟩
    have N87 := Fr.snoc X87 N85 g_b2
    have Z87 : n0 ≤ h87.size := Nat.le_trans Z85 (Keep.of_wr W87).1
    have pre88 : ∀ t, SS p e below m T87 254 #[iv p1, iv p2, iv p3, .unset, .unset] [(.int (65536 : Int32)), (.int (38 : Int32)), (.ref b2), (.ref b2)] t → B t := fun t kk => pre86 t (by
      refine st87 _ ?_
      show SS p e below m T87 249 #[iv p1, iv p2, iv p3, .unset, .unset] [(.ref b2)] _
      refine XS.dup X87.here hx rfl (hb hby at_249) rfl rfl ?_
      show SS p e below m T87 250 #[iv p1, iv p2, iv p3, .unset, .unset] [(.ref b2), (.ref b2)] _
      refine XS.bipush X87.here hx rfl (hb hby at_250) ?_
      show SS p e below m T87 252 #[iv p1, iv p2, iv p3, .unset, .unset] [(.int (38 : Int32)), (.ref b2), (.ref b2)] _
      refine X87.ldcInt hx hown (mvT hZ (hw _ (List.mem_of_getElem? (i := 8) rfl))) (g := (mkF m 252 #[iv p1, iv p2, iv p3, .unset, .unset] [(.int (38 : Int32)), (.ref b2), (.ref b2)])) rfl (hb hby at_252) _ ?_
      show SS p e below m T87 254 #[iv p1, iv p2, iv p3, .unset, .unset] [(.int (65536 : Int32)), (.int (38 : Int32)), (.ref b2), (.ref b2)] _
      exact kk)
    obtain ⟨cl89, Ar89, q89, S89, M89, H89, G89⟩ := V87'
    have hin89 : ¬ ((38 : Int32) < 0 ∨ cl89.slots.size ≤ ((38 : Int32)).toNatClampNeg) := inb_of S89 ⟨by decide, by decide⟩
    obtain ⟨T89, h89, X89, e89, W89, st89⟩ := stI X87 hx hZ e87 Ar89 (j := (38 : Int32)) hin89 (g := (mkF m 254 #[iv p1, iv p2, iv p3, .unset, .unset] [(.int (65536 : Int32)), (.int (38 : Int32)), (.ref b2), (.ref b2)])) rfl rfl (hb hby at_254)
    have V89 := Arv.set Ar89 q89 S89 M89 H89 G89 rfl W89 38 rfl (by rw [List.length_map, hl87]; decide)
    obtain ⟨vs89, hl89, V89'⟩ : ∃ l : List Int32, l.length = 44 ∧ Arv Z h89 b2 k2 .int (44 : Int32) (l.map Value.int) (.int (0 : Int32)) := ⟨vs87.set 38 (65536 : Int32), by rw [List.length_set]; exact hl87, by rw [List.map_set]; exact V89⟩
    have N89 := Fr.snoc X89 N87 g_b2
    have Z89 : n0 ≤ h89.size := Nat.le_trans Z87 (Keep.of_wr W89).1
    have pre90 : ∀ t, SS p e below m T89 260 #[iv p1, iv p2, iv p3, .unset, .unset] [(.int (983039 : Int32)), (.int (39 : Int32)), (.ref b2), (.ref b2)] t → B t := fun t kk => pre88 t (by
      refine st89 _ ?_
      show SS p e below m T89 255 #[iv p1, iv p2, iv p3, .unset, .unset] [(.ref b2)] _
      refine XS.dup X89.here hx rfl (hb hby at_255) rfl rfl ?_
      show SS p e below m T89 256 #[iv p1, iv p2, iv p3, .unset, .unset] [(.ref b2), (.ref b2)] _
      refine XS.bipush X89.here hx rfl (hb hby at_256) ?_
      show SS p e below m T89 258 #[iv p1, iv p2, iv p3, .unset, .unset] [(.int (39 : Int32)), (.ref b2), (.ref b2)] _
      refine X89.ldcInt hx hown (mvT hZ (hw _ (List.mem_of_getElem? (i := 9) rfl))) (g := (mkF m 258 #[iv p1, iv p2, iv p3, .unset, .unset] [(.int (39 : Int32)), (.ref b2), (.ref b2)])) rfl (hb hby at_258) _ ?_
      show SS p e below m T89 260 #[iv p1, iv p2, iv p3, .unset, .unset] [(.int (983039 : Int32)), (.int (39 : Int32)), (.ref b2), (.ref b2)] _
      exact kk)
    obtain ⟨cl91, Ar91, q91, S91, M91, H91, G91⟩ := V89'
    have hin91 : ¬ ((39 : Int32) < 0 ∨ cl91.slots.size ≤ ((39 : Int32)).toNatClampNeg) := inb_of S91 ⟨by decide, by decide⟩
    obtain ⟨T91, h91, X91, e91, W91, st91⟩ := stI X89 hx hZ e89 Ar91 (j := (39 : Int32)) hin91 (g := (mkF m 260 #[iv p1, iv p2, iv p3, .unset, .unset] [(.int (983039 : Int32)), (.int (39 : Int32)), (.ref b2), (.ref b2)])) rfl rfl (hb hby at_260)
    have V91 := Arv.set Ar91 q91 S91 M91 H91 G91 rfl W91 39 rfl (by rw [List.length_map, hl89]; decide)
    obtain ⟨vs91, hl91, V91'⟩ : ∃ l : List Int32, l.length = 44 ∧ Arv Z h91 b2 k2 .int (44 : Int32) (l.map Value.int) (.int (0 : Int32)) := ⟨vs89.set 39 (983039 : Int32), by rw [List.length_set]; exact hl89, by rw [List.map_set]; exact V91⟩
    have N91 := Fr.snoc X91 N89 g_b2
    have Z91 : n0 ≤ h91.size := Nat.le_trans Z89 (Keep.of_wr W91).1
    have pre92 : ∀ t, SS p e below m T91 261 #[iv p1, iv p2, iv p3, .unset, .unset] [(.ref b2)] t → B t := fun t kk => pre90 t (by
      refine st91 _ ?_
      show SS p e below m T91 261 #[iv p1, iv p2, iv p3, .unset, .unset] [(.ref b2)] _
      exact kk)
    exact ⟨T91, h91, _, vs91, X91, e91, N91, Z91, hl91, V91', pre92⟩
  obtain ⟨T103, h103, L103, vs103_0, X103, e103, N103, Z103, hl103_0, V103_0, pre103⟩ : ∃ (T : State) (h : Heap) (locs : List Loc) (l0 : List Int32), Stand p l e room_1 s m #[(.int p1), (.int p2), (.int p3)] below meth c T locs 1 44 ∧ T.heap = h ∧ Fr n0 locs ∧ n0 ≤ h.size ∧ l0.length = 44 ∧ Arv Z h b2 k2 .int (44 : Int32) (l0.map Value.int) (.int (0 : Int32)) ∧ (∀ t, SS p e below m T 285 #[iv p1, iv p2, iv p3, .unset, .unset] [(.ref b2)] t → B t) := by
    have pre94 : ∀ t, SS p e below m T93 266 #[iv p1, iv p2, iv p3, .unset, .unset] [(.int (983040 : Int32)), (.int (40 : Int32)), (.ref b2), (.ref b2)] t → B t := fun t kk => pre93 t (by
      refine XS.dup X93.here hx rfl (hb hby at_261) rfl rfl ?_
      show SS p e below m T93 262 #[iv p1, iv p2, iv p3, .unset, .unset] [(.ref b2), (.ref b2)] _
      refine XS.bipush X93.here hx rfl (hb hby at_262) ?_
      show SS p e below m T93 264 #[iv p1, iv p2, iv p3, .unset, .unset] [(.int (40 : Int32)), (.ref b2), (.ref b2)] _
      refine X93.ldcInt hx hown (mvT hZ (hw _ (List.mem_of_getElem? (i := 10) rfl))) (g := (mkF m 264 #[iv p1, iv p2, iv p3, .unset, .unset] [(.int (40 : Int32)), (.ref b2), (.ref b2)])) rfl (hb hby at_264) _ ?_
      show SS p e below m T93 266 #[iv p1, iv p2, iv p3, .unset, .unset] [(.int (983040 : Int32)), (.int (40 : Int32)), (.ref b2), (.ref b2)] _
      exact kk)
    obtain ⟨cl95, Ar95, q95, S95, M95, H95, G95⟩ := V93_0
    have hin95 : ¬ ((40 : Int32) < 0 ∨ cl95.slots.size ≤ ((40 : Int32)).toNatClampNeg) := inb_of S95 ⟨by decide, by decide⟩
    obtain ⟨T95, h95, X95, e95, W95, st95⟩ := stI X93 hx hZ e93 Ar95 (j := (40 : Int32)) hin95 (g := (mkF m 266 #[iv p1, iv p2, iv p3, .unset, .unset] [(.int (983040 : Int32)), (.int (40 : Int32)), (.ref b2), (.ref b2)])) rfl rfl (hb hby at_266)
    have V95 := Arv.set Ar95 q95 S95 M95 H95 G95 rfl W95 40 rfl (by rw [List.length_map, hl93_0]; decide)
    obtain ⟨vs95, hl95, V95'⟩ : ∃ l : List Int32, l.length = 44 ∧ Arv Z h95 b2 k2 .int (44 : Int32) (l.map Value.int) (.int (0 : Int32)) := ⟨vs93_0.set 40 (983040 : Int32), by rw [List.length_set]; exact hl93_0, by rw [List.map_set]; exact V95⟩
    have N95 := Fr.snoc X95 N93 g_b2
    have Z95 : n0 ≤ h95.size := Nat.le_trans Z93 (Keep.of_wr W95).1
    have pre96 : ∀ t, SS p e below m T95 272 #[iv p1, iv p2, iv p3, .unset, .unset] [(.int (1114111 : Int32)), (.int (41 : Int32)), (.ref b2), (.ref b2)] t → B t := fun t kk => pre94 t (by
      refine st95 _ ?_
      show SS p e below m T95 267 #[iv p1, iv p2, iv p3, .unset, .unset] [(.ref b2)] _
      refine XS.dup X95.here hx rfl (hb hby at_267) rfl rfl ?_
      show SS p e below m T95 268 #[iv p1, iv p2, iv p3, .unset, .unset] [(.ref b2), (.ref b2)] _
      refine XS.bipush X95.here hx rfl (hb hby at_268) ?_
      show SS p e below m T95 270 #[iv p1, iv p2, iv p3, .unset, .unset] [(.int (41 : Int32)), (.ref b2), (.ref b2)] _
      refine X95.ldcInt hx hown (mvT hZ (hw _ (List.mem_of_getElem? (i := 11) rfl))) (g := (mkF m 270 #[iv p1, iv p2, iv p3, .unset, .unset] [(.int (41 : Int32)), (.ref b2), (.ref b2)])) rfl (hb hby at_270) _ ?_
      show SS p e below m T95 272 #[iv p1, iv p2, iv p3, .unset, .unset] [(.int (1114111 : Int32)), (.int (41 : Int32)), (.ref b2), (.ref b2)] _
      exact kk)
    obtain ⟨cl97, Ar97, q97, S97, M97, H97, G97⟩ := V95'
    have hin97 : ¬ ((41 : Int32) < 0 ∨ cl97.slots.size ≤ ((41 : Int32)).toNatClampNeg) := inb_of S97 ⟨by decide, by decide⟩
    obtain ⟨T97, h97, X97, e97, W97, st97⟩ := stI X95 hx hZ e95 Ar97 (j := (41 : Int32)) hin97 (g := (mkF m 272 #[iv p1, iv p2, iv p3, .unset, .unset] [(.int (1114111 : Int32)), (.int (41 : Int32)), (.ref b2), (.ref b2)])) rfl rfl (hb hby at_272)
    have V97 := Arv.set Ar97 q97 S97 M97 H97 G97 rfl W97 41 rfl (by rw [List.length_map, hl95]; decide)
    obtain ⟨vs97, hl97, V97'⟩ : ∃ l : List Int32, l.length = 44 ∧ Arv Z h97 b2 k2 .int (44 : Int32) (l.map Value.int) (.int (0 : Int32)) := ⟨vs95.set 41 (1114111 : Int32), by rw [List.length_set]; exact hl95, by rw [List.map_set]; exact V97⟩
    have N97 := Fr.snoc X97 N95 g_b2
    have Z97 : n0 ≤ h97.size := Nat.le_trans Z95 (Keep.of_wr W97).1
    have pre98 : ∀ t, SS p e below m T97 278 #[iv p1, iv p2, iv p3, .unset, .unset] [(.int (-2147483648 : Int32)), (.int (42 : Int32)), (.ref b2), (.ref b2)] t → B t := fun t kk => pre96 t (by
      refine st97 _ ?_
      show SS p e below m T97 273 #[iv p1, iv p2, iv p3, .unset, .unset] [(.ref b2)] _
      refine XS.dup X97.here hx rfl (hb hby at_273) rfl rfl ?_
      show SS p e below m T97 274 #[iv p1, iv p2, iv p3, .unset, .unset] [(.ref b2), (.ref b2)] _
      refine XS.bipush X97.here hx rfl (hb hby at_274) ?_
      show SS p e below m T97 276 #[iv p1, iv p2, iv p3, .unset, .unset] [(.int (42 : Int32)), (.ref b2), (.ref b2)] _
      refine X97.ldcInt hx hown (mvT hZ (hw _ (List.mem_of_getElem? (i := 12) rfl))) (g := (mkF m 276 #[iv p1, iv p2, iv p3, .unset, .unset] [(.int (42 : Int32)), (.ref b2), (.ref b2)])) rfl (hb hby at_276) _ ?_
      show SS p e below m T97 278 #[iv p1, iv p2, iv p3, .unset, .unset] [(.int (-2147483648 : Int32)), (.int (42 : Int32)), (.ref b2), (.ref b2)] _
      exact kk)
    obtain ⟨cl99, Ar99, q99, S99, M99, H99, G99⟩ := V97'
    have hin99 : ¬ ((42 : Int32) < 0 ∨ cl99.slots.size ≤ ((42 : Int32)).toNatClampNeg) := inb_of S99 ⟨by decide, by decide⟩
    obtain ⟨T99, h99, X99, e99, W99, st99⟩ := stI X97 hx hZ e97 Ar99 (j := (42 : Int32)) hin99 (g := (mkF m 278 #[iv p1, iv p2, iv p3, .unset, .unset] [(.int (-2147483648 : Int32)), (.int (42 : Int32)), (.ref b2), (.ref b2)])) rfl rfl (hb hby at_278)
    have V99 := Arv.set Ar99 q99 S99 M99 H99 G99 rfl W99 42 rfl (by rw [List.length_map, hl97]; decide)
    obtain ⟨vs99, hl99, V99'⟩ : ∃ l : List Int32, l.length = 44 ∧ Arv Z h99 b2 k2 .int (44 : Int32) (l.map Value.int) (.int (0 : Int32)) := ⟨vs97.set 42 (-2147483648 : Int32), by rw [List.length_set]; exact hl97, by rw [List.map_set]; exact V99⟩
    have N99 := Fr.snoc X99 N97 g_b2
    have Z99 : n0 ≤ h99.size := Nat.le_trans Z97 (Keep.of_wr W99).1
    have pre100 : ∀ t, SS p e below m T99 284 #[iv p1, iv p2, iv p3, .unset, .unset] [(.int (2147483647 : Int32)), (.int (43 : Int32)), (.ref b2), (.ref b2)] t → B t := fun t kk => pre98 t (by
      refine st99 _ ?_
      show SS p e below m T99 279 #[iv p1, iv p2, iv p3, .unset, .unset] [(.ref b2)] _
      refine XS.dup X99.here hx rfl (hb hby at_279) rfl rfl ?_
      show SS p e below m T99 280 #[iv p1, iv p2, iv p3, .unset, .unset] [(.ref b2), (.ref b2)] _
      refine XS.bipush X99.here hx rfl (hb hby at_280) ?_
      show SS p e below m T99 282 #[iv p1, iv p2, iv p3, .unset, .unset] [(.int (43 : Int32)), (.ref b2), (.ref b2)] _
      refine X99.ldcInt hx hown (mvT hZ (hw _ (List.mem_of_getElem? (i := 13) rfl))) (g := (mkF m 282 #[iv p1, iv p2, iv p3, .unset, .unset] [(.int (43 : Int32)), (.ref b2), (.ref b2)])) rfl (hb hby at_282) _ ?_
      show SS p e below m T99 284 #[iv p1, iv p2, iv p3, .unset, .unset] [(.int (2147483647 : Int32)), (.int (43 : Int32)), (.ref b2), (.ref b2)] _
      exact kk)
    obtain ⟨cl101, Ar101, q101, S101, M101, H101, G101⟩ := V99'
    have hin101 : ¬ ((43 : Int32) < 0 ∨ cl101.slots.size ≤ ((43 : Int32)).toNatClampNeg) := inb_of S101 ⟨by decide, by decide⟩
    obtain ⟨T101, h101, X101, e101, W101, st101⟩ := stI X99 hx hZ e99 Ar101 (j := (43 : Int32)) hin101 (g := (mkF m 284 #[iv p1, iv p2, iv p3, .unset, .unset] [(.int (2147483647 : Int32)), (.int (43 : Int32)), (.ref b2), (.ref b2)])) rfl rfl (hb hby at_284)
    have V101 := Arv.set Ar101 q101 S101 M101 H101 G101 rfl W101 43 rfl (by rw [List.length_map, hl99]; decide)
    obtain ⟨vs101, hl101, V101'⟩ : ∃ l : List Int32, l.length = 44 ∧ Arv Z h101 b2 k2 .int (44 : Int32) (l.map Value.int) (.int (0 : Int32)) := ⟨vs99.set 43 (2147483647 : Int32), by rw [List.length_set]; exact hl99, by rw [List.map_set]; exact V101⟩
    have N101 := Fr.snoc X101 N99 g_b2
    have Z101 : n0 ≤ h101.size := Nat.le_trans Z99 (Keep.of_wr W101).1
    have pre102 : ∀ t, SS p e below m T101 285 #[iv p1, iv p2, iv p3, .unset, .unset] [(.ref b2)] t → B t := fun t kk => pre100 t (by
      refine st101 _ ?_
      show SS p e below m T101 285 #[iv p1, iv p2, iv p3, .unset, .unset] [(.ref b2)] _
      exact kk)
    exact ⟨T101, h101, _, vs101, X101, e101, N101, Z101, hl101, V101', pre102⟩
  have pre104 : ∀ t, SS p e below m T103 289 #[iv p1, iv p2, iv p3, rv b2, .unset] [(.int (p2 &&& (1 : Int32)))] t → B t := fun t kk => pre103 t (by
    refine XS.astoreN X103.here hx rfl (hb hby at_285) rfl rfl (l' := #[iv p1, iv p2, iv p3, rv b2, .unset]) rfl ?_
    show SS p e below m T103 286 #[iv p1, iv p2, iv p3, rv b2, .unset] [] _
    refine XS.iloadN X103.here hx rfl (hb hby at_286) rfl ?_
    show SS p e below m T103 287 #[iv p1, iv p2, iv p3, rv b2, .unset] [(.int p2)] _
    refine XS.iconst X103.here hx rfl (hb hby at_287) ?_
    show SS p e below m T103 288 #[iv p1, iv p2, iv p3, rv b2, .unset] [(.int (1 : Int32)), (.int p2)] _
    refine XS.iand X103.here hx rfl (hb hby at_288) rfl ?_
    show SS p e below m T103 289 #[iv p1, iv p2, iv p3, rv b2, .unset] [(.int (p2 &&& (1 : Int32)))] _
    exact kk)
  by_cases hc105 : (p2 &&& (1 : Int32)) = (0 : Int32)
  · have pre106 : ∀ t, SS p e below m T103 316 #[iv p1, iv p2, iv p3, rv b2, iv p1] [(.int p1)] t → B t := fun t kk => pre104 t (by
      refine XS.ifNo X103.here hx rfl (hb hby at_289) rfl ((if0 _ _).trans (teq hc105).2) ?_
      show SS p e below m T103 292 #[iv p1, iv p2, iv p3, rv b2, .unset] [] _
      refine XS.iloadN X103.here hx rfl (hb hby at_292) rfl ?_
      show SS p e below m T103 293 #[iv p1, iv p2, iv p3, rv b2, .unset] [(.int p1)] _
      refine XS.istore X103.here hx rfl (hb hby at_293) rfl (l' := #[iv p1, iv p2, iv p3, rv b2, iv p1]) rfl ?_
      show SS p e below m T103 295 #[iv p1, iv p2, iv p3, rv b2, iv p1] [] _
      refine XS.goto X103.here hx rfl (pc0 := 295) (pc' := 314) rfl (hb hby at_295) (by decide) (by decide) ?_
      show SS p e below m T103 314 #[iv p1, iv p2, iv p3, rv b2, iv p1] [] _
      refine XS.iload X103.here hx rfl (hb hby at_314) rfl ?_
      show SS p e below m T103 316 #[iv p1, iv p2, iv p3, rv b2, iv p1] [(.int p1)] _
      exact kk)
    obtain ⟨_, _, ⟨T107, L107, k107, n107⟩, -, X107, ⟨Lc107, hQ107, l107, y107, z107⟩, st107⟩ := Jvm.LawKit.callS X103 hx (y := (⟨"com/example/mendmark/mendmark/core/XmlChars", "isNameStart", "(I)Z"⟩ : MethodName)) hown (mvT hZ (hw _ (List.mem_of_getElem? (i := 14) rfl))) (mvT hZ (hw _ (List.mem_of_getElem? (i := 15) rfl))) (mvT hZ (hw _ (List.mem_of_getElem? (i := 16) rfl))) (mvT hZ (hw _ (List.mem_of_getElem? (i := 17) rfl))) (by decide) (backOf (W := 0) (rm1 l Z a0 hw [] p1 h103 n0 Z103 ) hZ (hw _ (List.mem_of_getElem? (i := 17) rfl)) (hw _ (List.mem_of_getElem? (i := 16) rfl)) (by decide) (by decide)) (g := (mkF m 316 #[iv p1, iv p2, iv p3, rv b2, iv p1] [(.int p1)])) rfl (by rw [hml]; rfl) (argsL := [(.int p1)]) (rest := []) (lenOf pd_1 rfl) rfl (by show 2 * 0 + _ ≤ _; exact Nat.le_of_eq rfl) (hb hby at_316) (fun _ _ => ⟨rfl, e103, (by decide : 1 + 0 ≤ _), (by decide : 44 + 0 ≤ _)⟩)
    dsimp only [Pt.U, Pt.locs, Pt.cells, Pt.slots] at X107 l107 y107 z107 st107 hQ107
    subst l107 y107 z107
    obtain ⟨rfl, N107q, e107⟩ := hQ107
    have N107 := Fr.app N103 N107q
    have pre108 : ∀ t, SS p e below m T107 321 #[iv p1, iv p2, iv p3, rv b2, iv p1] [(.int p1), (.int (f1 p1))] t → B t := fun t kk => pre106 t (by
      refine st107 _ ?_
      show SS p e below m T107 319 #[iv p1, iv p2, iv p3, rv b2, iv p1] [(.int (f1 p1))] _
      refine XS.iload X107.here hx rfl (hb hby at_319) rfl ?_
      show SS p e below m T107 321 #[iv p1, iv p2, iv p3, rv b2, iv p1] [(.int p1), (.int (f1 p1))] _
      exact kk)
    obtain ⟨_, _, ⟨T109, L109, k109, n109⟩, -, X109, ⟨Lc109, hQ109, l109, y109, z109⟩, st109⟩ := Jvm.LawKit.callS X107 hx (y := (⟨"com/example/mendmark/mendmark/core/XmlCharsIsNameStartPinLaw", "reference", "(I)Z"⟩ : MethodName)) hown (mvT hZ (hw _ (List.mem_of_getElem? (i := 18) rfl))) (mvT hZ (hw _ (List.mem_of_getElem? (i := 19) rfl))) (mvT hZ (hw _ (List.mem_of_getElem? (i := 20) rfl))) (mvT hZ (hw _ (List.mem_of_getElem? (i := 21) rfl))) (by decide) (backOf (W := 1) (rm2 l Z a0 hw [] p1 h103 n0 Z103 ) hZ (hw _ (List.mem_of_getElem? (i := 21) rfl)) (hw _ (List.mem_of_getElem? (i := 20) rfl)) (by decide) (by decide)) (g := (mkF m 321 #[iv p1, iv p2, iv p3, rv b2, iv p1] [(.int p1), (.int (f1 p1))])) rfl (by rw [hml]; rfl) (argsL := [(.int p1)]) (rest := [(.int (f1 p1))]) (lenOf pd_1 rfl) rfl (by show 2 * 0 + _ ≤ _; exact Nat.le_of_eq rfl) (hb hby at_321) (fun _ _ => ⟨rfl, e107, (by decide : 1 + 0 ≤ _), (by decide : 44 + 0 ≤ _)⟩)
    dsimp only [Pt.U, Pt.locs, Pt.cells, Pt.slots] at X109 l109 y109 z109 st109 hQ109
    subst l109 y109 z109
    obtain ⟨rfl, N109q, e109⟩ := hQ109
    have N109 := Fr.app N107 N109q
    have pre110 : ∀ t, SS p e below m T109 332 #[iv p1, iv p2, iv p3, rv b2, iv p1] [(.int (1 : Int32))] t → B t := fun t kk => pre108 t (by
      refine st109 _ ?_
      show SS p e below m T109 324 #[iv p1, iv p2, iv p3, rv b2, iv p1] [(.int (f2 p1)), (.int (f1 p1))] _
      refine XS.icmpNo X109.here hx rfl (hb hby at_324) rfl (teq (own_eq p1)).2 ?_
      show SS p e below m T109 327 #[iv p1, iv p2, iv p3, rv b2, iv p1] [] _
      refine XS.iconst X109.here hx rfl (hb hby at_327) ?_
      show SS p e below m T109 328 #[iv p1, iv p2, iv p3, rv b2, iv p1] [(.int (1 : Int32))] _
      refine XS.goto X109.here hx rfl (pc0 := 328) (pc' := 332) rfl (hb hby at_328) (by decide) (by decide) ?_
      show SS p e below m T109 332 #[iv p1, iv p2, iv p3, rv b2, iv p1] [(.int (1 : Int32))] _
      exact kk)
    obtain ⟨fs, hr, hrun, hended, hW, hsame⟩ := X109.leave (v := some (.int (1 : Int32))) (fun h => by rw [Bd.returns] at h; cases h)
    refine ⟨_, _, hB _ (pre110 _ ?_), hrun, hended, _, _, rfl, ?_, ⟨_, rfl⟩, hW, hsame.mono (by decide) (by decide)⟩
    · exact retN X109 hx (t := .boolean) Bd.returns (by simp) (hb hby at_332) hr
    · exact ⟨rfl, N109⟩
  · have pre111 : ∀ t, SS p e below m T103 303 #[iv p1, iv p2, iv p3, rv b2, .unset] [(.ref b2), (.int ((p2.toUInt32 >>> ((1 : Int32) &&& 31).toUInt32).toInt32)), (.ref b2)] t → B t := fun t kk => pre104 t (by
      refine XS.ifYes X103.here hx rfl (pc0 := 289) (pc' := 298) rfl (hb hby at_289) rfl ((if0 _ _).trans (feq hc105).2) (by decide) (by decide) ?_
      show SS p e below m T103 298 #[iv p1, iv p2, iv p3, rv b2, .unset] [] _
      refine XS.aloadN X103.here hx rfl (hb hby at_298) rfl rfl ?_
      show SS p e below m T103 299 #[iv p1, iv p2, iv p3, rv b2, .unset] [(.ref b2)] _
      refine XS.iloadN X103.here hx rfl (hb hby at_299) rfl ?_
      show SS p e below m T103 300 #[iv p1, iv p2, iv p3, rv b2, .unset] [(.int p2), (.ref b2)] _
      refine XS.iconst X103.here hx rfl (hb hby at_300) ?_
      show SS p e below m T103 301 #[iv p1, iv p2, iv p3, rv b2, .unset] [(.int (1 : Int32)), (.int p2), (.ref b2)] _
      refine XS.iushr X103.here hx rfl (hb hby at_301) rfl ?_
      show SS p e below m T103 302 #[iv p1, iv p2, iv p3, rv b2, .unset] [(.int ((p2.toUInt32 >>> ((1 : Int32) &&& 31).toUInt32).toInt32)), (.ref b2)] _
      refine XS.aloadN X103.here hx rfl (hb hby at_302) rfl rfl ?_
      show SS p e below m T103 303 #[iv p1, iv p2, iv p3, rv b2, .unset] [(.ref b2), (.int ((p2.toUInt32 >>> ((1 : Int32) &&& 31).toUInt32).toInt32)), (.ref b2)] _
      exact kk)
    obtain ⟨cl112, Ar112, -, S112, M112, -, -⟩ := id V103_0
    have pre113 : ∀ t, SS p e below m T103 305 #[iv p1, iv p2, iv p3, rv b2, .unset] [(.int (((p2.toUInt32 >>> ((1 : Int32) &&& 31).toUInt32).toInt32) % (44 : Int32))), (.ref b2)] t → B t := fun t kk => pre111 t (by
      refine X103.arraylength hx (by rw [e103]; exact Ar112.1) (State.isArrayOf_alike hZ.alike Ar112.2.1) (g := (mkF m 303 #[iv p1, iv p2, iv p3, rv b2, .unset] [(.ref b2), (.int ((p2.toUInt32 >>> ((1 : Int32) &&& 31).toUInt32).toInt32)), (.ref b2)])) rfl rfl (hb hby at_303) _ ?_
      rw [len_of S112 M112]
      show SS p e below m T103 304 #[iv p1, iv p2, iv p3, rv b2, .unset] [(.int (44 : Int32)), (.int ((p2.toUInt32 >>> ((1 : Int32) &&& 31).toUInt32).toInt32)), (.ref b2)] _
      refine iremM (g := (mkF m 304 #[iv p1, iv p2, iv p3, rv b2, .unset] [(.int (44 : Int32)), (.int ((p2.toUInt32 >>> ((1 : Int32) &&& 31).toUInt32).toInt32)), (.ref b2)])) X103 hx rfl (hb hby at_304) rfl (by decide) ?_
      show SS p e below m T103 305 #[iv p1, iv p2, iv p3, rv b2, .unset] [(.int (((p2.toUInt32 >>> ((1 : Int32) &&& 31).toUInt32).toInt32) % (44 : Int32))), (.ref b2)] _
      exact kk)
    obtain ⟨cl114, Ar114, -, S114, -, H114, -⟩ := id V103_0
    have hin114 : ¬ ((((p2.toUInt32 >>> ((1 : Int32) &&& 31).toUInt32).toInt32) % (44 : Int32)) < 0 ∨ cl114.slots.size ≤ ((((p2.toUInt32 >>> ((1 : Int32) &&& 31).toUInt32).toInt32) % (44 : Int32))).toNatClampNeg) := inb_of S114 (own_44 p2)
    obtain ⟨w114, gw114⟩ : ∃ z : Int32, z = vs103_0.getD ((((p2.toUInt32 >>> ((1 : Int32) &&& 31).toUInt32).toInt32) % (44 : Int32))).toNatClampNeg 0 := ⟨_, rfl⟩
    have hat114 : cl114.slots[((((p2.toUInt32 >>> ((1 : Int32) &&& 31).toUInt32).toInt32) % (44 : Int32))).toNatClampNeg]? = some (.int w114) := by
      rw [H114 _ (Nat.lt_of_not_le fun q => hin114 (Or.inr q)), gw114]; exact congrArg some (own_getD vs103_0 _ 0)
    have pre116 : ∀ t, SS p e below m T103 312 #[iv p1, iv p2, iv p3, rv b2, .unset] [(.int (w114 + ((p3 &&& (3 : Int32)) - (1 : Int32))))] t → B t := fun t kk => pre113 t (by
      refine X103.iaload hx (j := (((p2.toUInt32 >>> ((1 : Int32) &&& 31).toUInt32).toInt32) % (44 : Int32))) (v := (.int w114)) (by rw [e103]; exact Ar114.1) (State.isArrayOf_alike hZ.alike Ar114.2.1) Ar114.2.2 hin114 hat114 (g := (mkF m 305 #[iv p1, iv p2, iv p3, rv b2, .unset] [(.int (((p2.toUInt32 >>> ((1 : Int32) &&& 31).toUInt32).toInt32) % (44 : Int32))), (.ref b2)])) rfl rfl (hb hby at_305) _ ?_
      show SS p e below m T103 306 #[iv p1, iv p2, iv p3, rv b2, .unset] [(.int w114)] _
      refine XS.iloadN X103.here hx rfl (hb hby at_306) rfl ?_
      show SS p e below m T103 307 #[iv p1, iv p2, iv p3, rv b2, .unset] [(.int p3), (.int w114)] _
      refine XS.iconst X103.here hx rfl (hb hby at_307) ?_
      show SS p e below m T103 308 #[iv p1, iv p2, iv p3, rv b2, .unset] [(.int (3 : Int32)), (.int p3), (.int w114)] _
      refine XS.iand X103.here hx rfl (hb hby at_308) rfl ?_
      show SS p e below m T103 309 #[iv p1, iv p2, iv p3, rv b2, .unset] [(.int (p3 &&& (3 : Int32))), (.int w114)] _
      refine XS.iconst X103.here hx rfl (hb hby at_309) ?_
      show SS p e below m T103 310 #[iv p1, iv p2, iv p3, rv b2, .unset] [(.int (1 : Int32)), (.int (p3 &&& (3 : Int32))), (.int w114)] _
      refine XS.isub X103.here hx rfl (hb hby at_310) rfl ?_
      show SS p e below m T103 311 #[iv p1, iv p2, iv p3, rv b2, .unset] [(.int ((p3 &&& (3 : Int32)) - (1 : Int32))), (.int w114)] _
      refine XS.iadd X103.here hx rfl (hb hby at_311) rfl ?_
      show SS p e below m T103 312 #[iv p1, iv p2, iv p3, rv b2, .unset] [(.int (w114 + ((p3 &&& (3 : Int32)) - (1 : Int32))))] _
      exact kk)
    obtain ⟨v115, g_v115⟩ : ∃ z, z = (w114 + ((p3 &&& (3 : Int32)) - (1 : Int32))) := ⟨_, rfl⟩
    rw [← g_v115] at pre116
    have pre117 : ∀ t, SS p e below m T103 316 #[iv p1, iv p2, iv p3, rv b2, iv v115] [(.int v115)] t → B t := fun t kk => pre116 t (by
      refine XS.istore X103.here hx rfl (hb hby at_312) rfl (l' := #[iv p1, iv p2, iv p3, rv b2, iv v115]) rfl ?_
      show SS p e below m T103 314 #[iv p1, iv p2, iv p3, rv b2, iv v115] [] _
      refine XS.iload X103.here hx rfl (hb hby at_314) rfl ?_
      show SS p e below m T103 316 #[iv p1, iv p2, iv p3, rv b2, iv v115] [(.int v115)] _
      exact kk)
    obtain ⟨_, _, ⟨T118, L118, k118, n118⟩, -, X118, ⟨Lc118, hQ118, l118, y118, z118⟩, st118⟩ := Jvm.LawKit.callS X103 hx (y := (⟨"com/example/mendmark/mendmark/core/XmlChars", "isNameStart", "(I)Z"⟩ : MethodName)) hown (mvT hZ (hw _ (List.mem_of_getElem? (i := 14) rfl))) (mvT hZ (hw _ (List.mem_of_getElem? (i := 15) rfl))) (mvT hZ (hw _ (List.mem_of_getElem? (i := 16) rfl))) (mvT hZ (hw _ (List.mem_of_getElem? (i := 17) rfl))) (by decide) (backOf (W := 0) (rm1 l Z a0 hw [] v115 h103 n0 Z103 ) hZ (hw _ (List.mem_of_getElem? (i := 17) rfl)) (hw _ (List.mem_of_getElem? (i := 16) rfl)) (by decide) (by decide)) (g := (mkF m 316 #[iv p1, iv p2, iv p3, rv b2, iv v115] [(.int v115)])) rfl (by rw [hml]; rfl) (argsL := [(.int v115)]) (rest := []) (lenOf pd_1 rfl) rfl (by show 2 * 0 + _ ≤ _; exact Nat.le_of_eq rfl) (hb hby at_316) (fun _ _ => ⟨rfl, e103, (by decide : 1 + 0 ≤ _), (by decide : 44 + 0 ≤ _)⟩)
    dsimp only [Pt.U, Pt.locs, Pt.cells, Pt.slots] at X118 l118 y118 z118 st118 hQ118
    subst l118 y118 z118
    obtain ⟨rfl, N118q, e118⟩ := hQ118
    have N118 := Fr.app N103 N118q
    have pre119 : ∀ t, SS p e below m T118 321 #[iv p1, iv p2, iv p3, rv b2, iv v115] [(.int v115), (.int (f1 v115))] t → B t := fun t kk => pre117 t (by
      refine st118 _ ?_
      show SS p e below m T118 319 #[iv p1, iv p2, iv p3, rv b2, iv v115] [(.int (f1 v115))] _
      refine XS.iload X118.here hx rfl (hb hby at_319) rfl ?_
      show SS p e below m T118 321 #[iv p1, iv p2, iv p3, rv b2, iv v115] [(.int v115), (.int (f1 v115))] _
      exact kk)
    obtain ⟨_, _, ⟨T120, L120, k120, n120⟩, -, X120, ⟨Lc120, hQ120, l120, y120, z120⟩, st120⟩ := Jvm.LawKit.callS X118 hx (y := (⟨"com/example/mendmark/mendmark/core/XmlCharsIsNameStartPinLaw", "reference", "(I)Z"⟩ : MethodName)) hown (mvT hZ (hw _ (List.mem_of_getElem? (i := 18) rfl))) (mvT hZ (hw _ (List.mem_of_getElem? (i := 19) rfl))) (mvT hZ (hw _ (List.mem_of_getElem? (i := 20) rfl))) (mvT hZ (hw _ (List.mem_of_getElem? (i := 21) rfl))) (by decide) (backOf (W := 1) (rm2 l Z a0 hw [] v115 h103 n0 Z103 ) hZ (hw _ (List.mem_of_getElem? (i := 21) rfl)) (hw _ (List.mem_of_getElem? (i := 20) rfl)) (by decide) (by decide)) (g := (mkF m 321 #[iv p1, iv p2, iv p3, rv b2, iv v115] [(.int v115), (.int (f1 v115))])) rfl (by rw [hml]; rfl) (argsL := [(.int v115)]) (rest := [(.int (f1 v115))]) (lenOf pd_1 rfl) rfl (by show 2 * 0 + _ ≤ _; exact Nat.le_of_eq rfl) (hb hby at_321) (fun _ _ => ⟨rfl, e118, (by decide : 1 + 0 ≤ _), (by decide : 44 + 0 ≤ _)⟩)
    dsimp only [Pt.U, Pt.locs, Pt.cells, Pt.slots] at X120 l120 y120 z120 st120 hQ120
    subst l120 y120 z120
    obtain ⟨rfl, N120q, e120⟩ := hQ120
    have N120 := Fr.app N118 N120q
    have pre121 : ∀ t, SS p e below m T120 332 #[iv p1, iv p2, iv p3, rv b2, iv v115] [(.int (1 : Int32))] t → B t := fun t kk => pre119 t (by
      refine st120 _ ?_
      show SS p e below m T120 324 #[iv p1, iv p2, iv p3, rv b2, iv v115] [(.int (f2 v115)), (.int (f1 v115))] _
      refine XS.icmpNo X120.here hx rfl (hb hby at_324) rfl (teq (own_eq v115)).2 ?_
      show SS p e below m T120 327 #[iv p1, iv p2, iv p3, rv b2, iv v115] [] _
      refine XS.iconst X120.here hx rfl (hb hby at_327) ?_
      show SS p e below m T120 328 #[iv p1, iv p2, iv p3, rv b2, iv v115] [(.int (1 : Int32))] _
      refine XS.goto X120.here hx rfl (pc0 := 328) (pc' := 332) rfl (hb hby at_328) (by decide) (by decide) ?_
      show SS p e below m T120 332 #[iv p1, iv p2, iv p3, rv b2, iv v115] [(.int (1 : Int32))] _
      exact kk)
    obtain ⟨fs, hr, hrun, hended, hW, hsame⟩ := X120.leave (v := some (.int (1 : Int32))) (fun h => by rw [Bd.returns] at h; cases h)
    refine ⟨_, _, hB _ (pre121 _ ?_), hrun, hended, _, _, rfl, ?_, ⟨_, rfl⟩, hW, hsame.mono (by decide) (by decide)⟩
    · exact retN X120 hx (t := .boolean) Bd.returns (by simp) (hb hby at_332) hr
    · exact ⟨rfl, N120⟩
set_option maxRecDepth 65536 in
set_option maxHeartbeats 40000000 in
theorem comes_1 {Post : Tables → Env → Array Value → State → Outcome → State → Prop} (hpost : ∀ tb e args s v u, (limb_1_1.after args s (.returned v) u = true ∧ limb_1_2.after args s (.returned v) u = true ∧ True) → FrameEnd s (.returned v) u (Jvm.fieldLocs frame_1_writes args s ++ Jvm.arrayLocs frame_1_arrays args s ++ Jvm.staticLocs frame_1_statics s) 16 192 → Post tb e args s (.returned v) u) :
    ArmFor flags0 classFile x code maxLocals ret World_1 tables_1 room_1 Calls_1 rest_1 Pre_1 Post := by
  intro l hfl _ _ p e ha hc hk s m args below hf hA hF happ hP
  obtain ⟨hcalls, hrest, hpre⟩ := hP
  obtain ⟨-, -, -, hnamed, -, -, -, hat⟩ := (Spec.applies_iff hf).mp happ
  obtain ⟨hg, hn⟩ := and_e (Cond.before_iff.mp (show (Jvm.Cond.and given_1 narrow_1).before args s = true from hpre))
  obtain ⟨gg1, gg2⟩ := and_e hg
  obtain ⟨gg3, gg4⟩ := and_e gg2
  obtain ⟨gg5, gg6⟩ := and_e gg4
  obtain ⟨w0, w1, w2, rfl⟩ : ∃ w0 w1 w2 : Value, args = #[w0, w1, w2] := by
    have hs : args.size = 3 := by simpa [Cond.value, given_1] using gg1
    obtain ⟨L⟩ := args
    match L, hs with
    | [w0, w1, w2], _ => exact ⟨w0, w1, w2, rfl⟩
  have hw := fun d (hd : d ∈ tables_1) => atoms_spec (ws := Jvm.Cond.code x code maxLocals ret :: tables_1) hat d (List.mem_cons_of_mem _ hd)
  obtain ⟨i0, ei0⟩ := is_v gg3
  obtain rfl : w0 = (.int i0) := Option.some.inj ei0
  obtain ⟨i1, ei1⟩ := is_v gg5
  obtain rfl : w1 = (.int i1) := Option.some.inj ei1
  obtain ⟨i2, ei2⟩ := is_v gg6
  obtain rfl : w2 = (.int i2) := Option.some.inj ei2
  obtain ⟨n, o, h1, h2, h3, _, L, rfl, ⟨rfl, N⟩, hq⟩ := rm0 l s _ hw tables_1 i0 i1 i2 s.heap s.heap.size (Nat.le_refl _)  p e ha hc hk s m _ below hf ((Spec.applies_iff_loose hf).mp happ).1 ⟨rfl, State.Warmed39.refl s, rfl⟩ trivial
  refine ⟨n, _, h1, h2, h3, hpost _ _ _ _ _ _ ⟨Cond.after_iff.mpr rfl, Cond.after_iff.mpr (eq_i res_at (Term.int_eval (1)) rfl), trivial⟩ ⟨hq.1, hq.2.1, (hq.2.2.sift fun y hy => Or.inr (N y hy)).mono (by decide) (by decide)⟩⟩
theorem main_1_1 : Claimed_1_1 := comes_1 fun _ _ _ _ _ _ h hF => ⟨h.1, hF⟩
theorem main_1_2 : Claimed_1_2 := comes_1 fun _ _ _ _ _ _ h hF => ⟨h.2.1, hF⟩
end Jvm.Pilot.@@N@@
namespace Jvm.Pilot.@@N@@
open Jvm Jvm.ClassFile Sem Op Lib Jvm.Free Jvm.Stand Jvm.Pilot.@@N@@.Jvm.D
/-! MADE BY PROGRAM (witnessworld.py) out of the Statement's table words and the real class files: 9 classes; the members and pool entries that the words name. The judged class is class 1, her method 3. -/
namespace start1
open Jvm.ClassFile
def u (s : String) : CpInfo := .utf8 (stringToUtf16 s)
/-- a pool by its gaps: so many unusable entries, then the entry; so many at the end -/
def gap : Nat → List CpInfo → List CpInfo
  | 0, r => r
  | n + 1, r => .unusable :: gap n r
def poolList (es : List (Nat × CpInfo)) (last : Nat) : List CpInfo := es.foldr (fun e r => gap e.1 (e.2 :: r)) (gap last [])
def pool (es : List (Nat × CpInfo)) (last : Nat) : Array CpInfo := ⟨poolList es last⟩
def fileOf (pool : Array CpInfo) (this : Nat) (attrs : Array Attribute := #[]) (ms : Array MethodInfo := #[]) (fl : Nat := 33) (sup : Nat := 0) (ifs : Array Nat := #[]) (fds : Array FieldInfo := #[]) : ClassFile where
  minorVersion := 0
  majorVersion := 65
  constantPool := pool
  accessFlags := fl
  thisClass := this
  superClass := sup
  interfaces := ifs
  fields := fds
  methods := ms
  attributes := attrs
def plain (name : String) (sup : Option ClassId) : Class where
  name := name
  kind := .ordinary
  loader := none
  accessFlags := 33
  super := sup
  interfaces := #[]
  cf := none
  fields := #[]
  methods := #[]
  instanceTypes := #[]
  staticTypes := #[]
  resolved := #[]
  callSites := []
  init := .initialized
  statics := none
  mirror := none

def pool0 : Array CpInfo := pool [(5, u "<init>"), (0, u "()V"), (1, .class_ 10), (1, u "java/lang/Object")] 113

def k0m0 : Method := { name := "<init>", desc := "()V", sig := { parameters := [], returnType := none }, accessFlags := 1, code := none }
/-- java/lang/Object -/
def k0 : Class := { plain "java/lang/Object" none with
  accessFlags := 33
  interfaces := #[]
  cf := some (fileOf pool0 8 #[] #[{ accessFlags := 1, nameIndex := 5, descriptorIndex := 6, attributes := #[] }] 33 0 #[] #[])
  fields := #[]
  methods := #[k0m0]
  instanceTypes := #[]
  staticTypes := #[]
  resolved := Array.replicate 124 none
  statics := none }

def pool1 : Array CpInfo := pool [(2, .class_ 4), (1, u "java/lang/Object"), (0, u "<init>"), (0, u "()V"), (0, .methodref 8 9), (0, .class_ 10), (0, .nameAndType 11 12), (0, u "com/example/mendmark/mendmark/core/XmlCharsIsNameStartPinLaw"), (0, u "in"), (0, u "(III)Z"), (0, .integer 55295), (0, .integer 63744), (0, .integer 64975), (0, .integer 65008), (0, .integer 65533), (0, .integer 65536), (0, .integer 983039), (0, .integer 55296), (0, .integer 65535), (0, .integer 983040), (0, .integer 1114111), (2, .integer 2147483648), (0, .integer 2147483647), (0, .methodref 29 30), (0, .class_ 31), (0, .nameAndType 32 33), (0, u "com/example/mendmark/mendmark/core/XmlChars"), (0, u "isNameStart"), (0, u "(I)Z"), (0, .methodref 8 35), (0, .nameAndType 36 33), (0, u "reference"), (3, u "law")] 4

def k1m0 : Method := { name := "<init>", desc := "()V", sig := { parameters := [], returnType := none }, accessFlags := 2, code := none }
def k1c1 : Code := { maxStack := 2, maxLocals := 3, code := method_2_code, exceptionTable := #[], attributes := #[] }
def k1m1 : Method := { name := "in", desc := "(III)Z", sig := { parameters := [.int, .int, .int], returnType := some .boolean }, accessFlags := 10, code := some k1c1 }
def k1c2 : Code := { maxStack := 3, maxLocals := 1, code := method_3_code, exceptionTable := #[], attributes := #[] }
def k1m2 : Method := { name := "reference", desc := "(I)Z", sig := { parameters := [.int], returnType := some .boolean }, accessFlags := 10, code := some k1c2 }
def k1c3 : Code := { maxStack := 4, maxLocals := 5, code := code, exceptionTable := #[], attributes := #[] }
def k1m3 : Method := { name := "law", desc := "(III)Z", sig := { parameters := [.int, .int, .int], returnType := some .boolean }, accessFlags := 9, code := some k1c3 }
/-- com/example/mendmark/mendmark/core/XmlCharsIsNameStartPinLaw -/
def k1 : Class := { plain "com/example/mendmark/mendmark/core/XmlCharsIsNameStartPinLaw" (some 0) with
  accessFlags := 49
  interfaces := #[]
  cf := some (fileOf pool1 8 #[] #[{ accessFlags := 2, nameIndex := 5, descriptorIndex := 6, attributes := #[] }, { accessFlags := 10, nameIndex := 11, descriptorIndex := 12, attributes := #[] }, { accessFlags := 10, nameIndex := 36, descriptorIndex := 33, attributes := #[] }, { accessFlags := 9, nameIndex := 40, descriptorIndex := 12, attributes := #[] }] 49 2 #[] #[])
  fields := #[]
  methods := #[k1m0, k1m1, k1m2, k1m3]
  instanceTypes := #[]
  staticTypes := #[]
  resolved := Array.replicate 45 none
  statics := none }

def pool2 : Array CpInfo := pool [(2, .class_ 4), (1, u "java/lang/Object"), (0, u "<init>"), (0, u "()V"), (2, .integer 65533), (0, .integer 65536), (1, .integer 55295), (0, .integer 63744), (0, .integer 64975), (0, .integer 65008), (0, .integer 983039), (1, .class_ 20), (1, u "com/example/mendmark/mendmark/core/XmlChars"), (0, u "isNameStart"), (0, u "(I)Z"), (75, u "STAND_IN"), (0, u "C"), (2, u "NO_COLON_YET"), (0, u "I")] 18

def k2m0 : Method := { name := "<init>", desc := "()V", sig := { parameters := [], returnType := none }, accessFlags := 2, code := none }
def k2c1 : Code := { maxStack := 2, maxLocals := 2, code := prog_63_method_4_code, exceptionTable := #[], attributes := #[] }
def k2m1 : Method := { name := "isNameStart", desc := "(I)Z", sig := { parameters := [.int], returnType := some .boolean }, accessFlags := 8, code := some k2c1 }
/-- com/example/mendmark/mendmark/core/XmlChars -/
def k2 : Class := { plain "com/example/mendmark/mendmark/core/XmlChars" (some 0) with
  accessFlags := 49
  interfaces := #[]
  cf := some (fileOf pool2 18 #[] #[{ accessFlags := 2, nameIndex := 5, descriptorIndex := 6, attributes := #[] }, { accessFlags := 8, nameIndex := 21, descriptorIndex := 22, attributes := #[] }] 49 2 #[] #[{ accessFlags := 24, nameIndex := 98, descriptorIndex := 99, attributes := #[] }, { accessFlags := 24, nameIndex := 102, descriptorIndex := 103, attributes := #[] }])
  fields := #[{ name := "STAND_IN", type := .char, accessFlags := 24, slot := 0, constantValue := 0 }, { name := "NO_COLON_YET", type := .int, accessFlags := 24, slot := 1, constantValue := 0 }]
  methods := #[k2m0, k2m1]
  instanceTypes := #[]
  staticTypes := #[.char, .int]
  resolved := Array.replicate 122 none
  statics := none }

def pool3 : Array CpInfo := pool [(1, u "java/lang/Cloneable"), (0, .class_ 1), (0, u "java/lang/Object"), (0, .class_ 3)] 3

/-- java/lang/Cloneable -/
def k3 : Class := { plain "java/lang/Cloneable" (some 0) with
  accessFlags := 1537
  interfaces := #[]
  cf := some (fileOf pool3 2 #[] #[] 1537 4 #[] #[])
  fields := #[]
  methods := #[]
  instanceTypes := #[]
  staticTypes := #[]
  resolved := Array.replicate 8 none
  statics := none }

def pool4 : Array CpInfo := pool [(1, u "java/io/Serializable"), (0, .class_ 1), (0, u "java/lang/Object"), (0, .class_ 3)] 3

/-- java/io/Serializable -/
def k4 : Class := { plain "java/io/Serializable" (some 0) with
  accessFlags := 1537
  interfaces := #[]
  cf := some (fileOf pool4 2 #[] #[] 1537 4 #[] #[])
  fields := #[]
  methods := #[]
  instanceTypes := #[]
  staticTypes := #[]
  resolved := Array.replicate 8 none
  statics := none }

/-- the primitive byte -/
def k5 : Class := { plain "byte" none with kind := .primitive 'B', accessFlags := 0x411 }
/-- [B -/
def k6 : Class := { plain "[B" (some 0) with kind := .array 5 .byte, interfaces := #[3, 4], accessFlags := 1041 }

/-- the primitive int -/
def k7 : Class := { plain "int" none with kind := .primitive 'I', accessFlags := 0x411 }
/-- [I -/
def k8 : Class := { plain "[I" (some 0) with kind := .array 7 .int, interfaces := #[3, 4], accessFlags := 1041 }

def heap : Heap := #[]
def classes : Array Class := #[k0, k1, k2, k3, k4, k5, k6, k7, k8]
def interned : List (Array UInt16 × Addr) := []
def slotsUsed : Nat := 0
def theMethod : MethodId := ⟨1, 3⟩
def args0 : Array Value := #[.int 5, .int 5, .int 5]
def aboutOver (below : List Frame) : State where
  vm := { classes := classes, interned := interned.toArray }
  heap := heap
  slotsUsed := slotsUsed
  threads := #[{ frames := .invoking theMethod args0 :: below }]
def below0 : List Frame := [.native { method := ⟨0, 0⟩, args := #[] }]
def about1 : State := aboutOver below0
def p0 : Program := .bare "" "" ""
def e0 : Env := launch0.env 0 0 0
theorem w_frames : about1.frames = Frame.invoking theMethod args0 :: below0 := rfl
set_option maxRecDepth 65536 in
theorem w_args : argsFit about1.vm theMethod args0 = true := by decide +kernel
set_option maxRecDepth 65536 in
theorem w_heap : heapFits about1 = true := by decide +kernel
set_option maxRecDepth 65536 in
theorem w_runnable : about1.curStatus? = some .runnable := by decide +kernel
set_option maxRecDepth 65536 in
theorem w_alone : about1.alone = true := by decide +kernel
set_option maxRecDepth 65536 in
theorem w_named : about1.methodNamed? x = some theMethod := by decide +kernel
set_option maxRecDepth 65536 in
theorem w_hears : about1.hears theMethod below0 = true := by decide +kernel
set_option maxRecDepth 65536 in
theorem w_ripe : about1.ripe theMethod args0 below0 = true := by decide +kernel
theorem w_running : about1.status = .running := rfl
set_option maxRecDepth 65536 in
theorem w_room : about1.hasRoom e0.platform room_1 = true :=
  launch0.hasRoom_least _ room_1 (by decide +kernel) (by decide +kernel) (by decide +kernel) (by decide +kernel) (by decide +kernel) (by decide +kernel)
theorem allAtoms_all (ts : List Jvm.Cond) (a : Array Jvm.Value) (st : Jvm.State) : (allAtoms ts).before a st = ts.all (fun c => c.before a st) := by
  induction ts with
  | nil => rfl
  | cons c t ih =>
    show (Jvm.Cond.and c (allAtoms t)).before a st = _
    rw [Jvm.Cond.before_and, ih, List.all_cons]
def words1 : List Jvm.Cond := Jvm.Cond.code x code maxLocals ret :: tables_1
/-- a 'code' word, met by the world's own term for the bytes: nothing is compared byte by byte -/
theorem code_word {y : MethodName} {bytes : ByteArray} {mx : Nat} {rt : Option FieldType} {a : Array Value} {s : State} {m : MethodId} {meth : Method} {c : Code} (h1 : s.methodNamed? y = some m) (h2 : s.vm.method? m = some meth) (h3 : meth.code = some c) (h4 : c.code = bytes)
    (h5 : (c.maxLocals == mx && c.exceptionTable.isEmpty && decide (c.maxStack ≤ mostOperands) && decide (meth.sig.returnType = rt) && !meth.locks && decide (parseMethodDescriptor y.desc = some meth.sig)) = true) : (Jvm.Cond.code y bytes mx rt).before a s = true := by
  simp only [Bool.and_eq_true, beq_iff_eq, Bool.not_eq_true', decide_eq_true_eq] at h5
  obtain ⟨⟨⟨⟨⟨g1, g2⟩, g3⟩, g4⟩, g5⟩, g6⟩ := h5
  simp [Cond.before, Cond.holds, Cond.value, h1, h2, h3, h4, g1, g2, g3, g4, g5, g6]
def isCode : Jvm.Cond → Bool
  | .code _ _ _ _ => true
  | _ => false
theorem all_split {L : List Jvm.Cond} {P : Jvm.Cond → Bool} (h1 : L.all (fun c => isCode c || P c) = true) (h2 : ∀ c ∈ L.filter isCode, P c = true) : L.all P = true := by
  refine List.all_eq_true.mpr fun c hc => ?_
  have h := List.all_eq_true.mp h1 c hc
  rcases Bool.eq_false_or_eq_true (isCode c) with hi | hi
  · exact h2 c (List.mem_filter.mpr ⟨hc, hi⟩)
  · simpa [hi] using h
set_option maxRecDepth 65536 in
theorem w_c0 : (Jvm.Cond.code x code maxLocals ret).before args0 about1 = true := code_word (m := ⟨1, 3⟩) (meth := k1m3) (c := k1c3) (by decide +kernel) rfl rfl rfl (by decide +kernel)
set_option maxRecDepth 65536 in
theorem w_c1 : (Jvm.Cond.code ({ cls := "com/example/mendmark/mendmark/core/XmlChars", name := "isNameStart", desc := "(I)Z" } : Jvm.MethodName) prog_63_method_4_code (2 : Nat) (Option.some Jvm.ClassFile.FieldType.boolean)).before args0 about1 = true := code_word (m := ⟨2, 1⟩) (meth := k2m1) (c := k2c1) (by decide +kernel) rfl rfl rfl (by decide +kernel)
set_option maxRecDepth 65536 in
theorem w_c2 : (Jvm.Cond.code ({ cls := "com/example/mendmark/mendmark/core/XmlCharsIsNameStartPinLaw", name := "reference", desc := "(I)Z" } : Jvm.MethodName) method_3_code (1 : Nat) (Option.some Jvm.ClassFile.FieldType.boolean)).before args0 about1 = true := code_word (m := ⟨1, 2⟩) (meth := k1m2) (c := k1c2) (by decide +kernel) rfl rfl rfl (by decide +kernel)
set_option maxRecDepth 65536 in
theorem w_c3 : (Jvm.Cond.code ({ cls := "com/example/mendmark/mendmark/core/XmlCharsIsNameStartPinLaw", name := "in", desc := "(III)Z" } : Jvm.MethodName) method_2_code (3 : Nat) (Option.some Jvm.ClassFile.FieldType.boolean)).before args0 about1 = true := code_word (m := ⟨1, 1⟩) (meth := k1m1) (c := k1c1) (by decide +kernel) rfl rfl rfl (by decide +kernel)
def codes1 : List Jvm.Cond := [Jvm.Cond.code x code maxLocals ret, Jvm.Cond.code ({ cls := "com/example/mendmark/mendmark/core/XmlChars", name := "isNameStart", desc := "(I)Z" } : Jvm.MethodName) prog_63_method_4_code (2 : Nat) (Option.some Jvm.ClassFile.FieldType.boolean), Jvm.Cond.code ({ cls := "com/example/mendmark/mendmark/core/XmlCharsIsNameStartPinLaw", name := "reference", desc := "(I)Z" } : Jvm.MethodName) method_3_code (1 : Nat) (Option.some Jvm.ClassFile.FieldType.boolean), Jvm.Cond.code ({ cls := "com/example/mendmark/mendmark/core/XmlCharsIsNameStartPinLaw", name := "in", desc := "(III)Z" } : Jvm.MethodName) method_2_code (3 : Nat) (Option.some Jvm.ClassFile.FieldType.boolean)]
set_option maxRecDepth 65536 in
theorem codes_eq : words1.filter isCode = codes1 := rfl
theorem w_codes : ∀ c ∈ words1.filter isCode, c.before args0 about1 = true := by
  rw [codes_eq]
  intro c hc
  simp only [codes1, List.mem_cons, List.not_mem_nil, or_false] at hc
  rcases hc with rfl | rfl | rfl | rfl
  · exact w_c0
  · exact w_c1
  · exact w_c2
  · exact w_c3
set_option maxRecDepth 65536 in
theorem w_t1 : (words1.take 24).all (fun c => isCode c || c.before args0 about1) = true := by decide +kernel
set_option maxRecDepth 65536 in
theorem w_t2 : (words1.drop 24).all (fun c => isCode c || c.before args0 about1) = true := by decide +kernel
theorem w_tables : (allAtoms (Jvm.Cond.code x code maxLocals ret :: tables_1)).before args0 about1 = true := by
  rw [allAtoms_all]
  show words1.all (fun c => c.before args0 about1) = true
  refine all_split ?_ w_codes
  rw [← List.take_append_drop 24 words1, List.all_append, w_t1, w_t2]
  rfl
set_option maxRecDepth 65536 in
theorem w_case : (Jvm.Cond.and given_1 narrow_1).before args0 about1 = true := by decide +kernel
theorem w_applies : (headSpec (Jvm.Cond.code x code maxLocals ret :: tables_1) room_1).applies x e0.platform about1 = true :=
  (Spec.applies_iff w_frames).mpr ⟨w_running, w_runnable, w_alone, w_named, w_hears, w_ripe, w_room, w_tables⟩
theorem atStart : AtStart classFile x code maxLocals ret World_1 tables_1 room_1 Calls_1 rest_1 Pre_1 launch0 p0 e0 about1 theMethod args0 below0 :=
  ⟨lists_1, trivial, launch0.admits_env _ _ _, launch0.least_env, fairChoices_fair.cas, fairChoices_fair.clock, w_frames, w_args, w_heap, w_applies, trivial, trivial, w_case⟩
end start1
theorem witness_1 : WitnessClaimed_1 := ⟨start1.p0, start1.e0, start1.about1, start1.theMethod, start1.args0, start1.below0, start1.atStart⟩
end Jvm.Pilot.@@N@@
